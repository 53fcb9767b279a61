/-
  FnSameNamesAgreesWithSortedModel: the walk.
-/
import Derived.Test.Qxb6000910aSortCopy
import Derived.Deep.RegionWith
namespace Go.Proofs.Qxb6000910a
open Go.RowKit

set_option maxHeartbeats 800000 in
/-- The guard on length of two lists: some bool. -/
theorem guard22_any (a b : Option Addr) (len cap len' cap' : Nat) (ss tt : List ByteArray) (w : World) (hs : Strs w a len ss) (ht : Strs w b len' tt) :
    Calls Try.prog 22 #[.slice a len cap, .slice b len' cap'] w fun e w' => RetBool e ∧ w' = w := by
  obtain ⟨hlen, hmax, hs⟩ := hs
  obtain ⟨hlen', hmax', ht⟩ := ht
  unfold maxLen at hmax hmax'
  go_enter Try.func22, Try.ntmps22
  go_wp2
  · go_ret
    exact ⟨⟨_, rfl⟩, rfl⟩
  go_loop [5, 6] (fun n i => ∃ (k : Nat) (z : Int), 0 ≤ z ∧ z ≤ 1048576 ∧ k ≤ len ∧ i = .int .i64 k ∧ n = .int .i64 z) (fun _ i => len - (intOf i).toNat)
  case atStart => exact ⟨0, _, by omega, by omega, Nat.zero_le _, rfl, rfl⟩
  case round =>
    obtain ⟨k, z, hz0, hz1, hk, rfl, rfl⟩ := hrel
    by_cases hlt : k < len
    · rcases hs with h0 | ⟨b, off, rfl, hc⟩
      · omega
      have hck := hc k hlt
      obtain ⟨s, hse⟩ : ∃ s, s = ss.getD k ByteArray.empty := ⟨_, rfl⟩
      rw [← hse] at hck
      clear hse hc
      go_wp2
      · go_ret
        exact ⟨⟨_, rfl⟩, rfl⟩
      · go_ret
        exact ⟨⟨_, rfl⟩, rfl⟩
      · go_round
        case rel => exact ⟨k + 1, _, by omega, by omega, by omega, by go_num, rfl⟩
        case measure => simp [intOf]; omega
    · go_wp2
      · go_ret
        exact ⟨⟨_, rfl⟩, rfl⟩
      · go_ret
        exact ⟨⟨_, rfl⟩, rfl⟩
      go_loop [5, 7] (fun n i => ∃ (k : Nat) (z : Int), 0 ≤ z ∧ z ≤ 1048576 ∧ k ≤ len' ∧ i = .int .i64 k ∧ n = .int .i64 z) (fun _ i => len' - (intOf i).toNat)
      case atStart => exact ⟨0, _, by omega, by omega, Nat.zero_le _, rfl, rfl⟩
      case round =>
        obtain ⟨k, z, hz0, hz1, hk, rfl, rfl⟩ := hrel
        by_cases hlt : k < len'
        · rcases ht with h0 | ⟨b, off, rfl, hc⟩
          · omega
          have hck := hc k hlt
          obtain ⟨s, hse⟩ : ∃ s, s = tt.getD k ByteArray.empty := ⟨_, rfl⟩
          rw [← hse] at hck
          clear hse hc
          go_wp2
          · go_ret
            exact ⟨⟨_, rfl⟩, rfl⟩
          · go_ret
            exact ⟨⟨_, rfl⟩, rfl⟩
          · go_round
            case rel => exact ⟨k + 1, _, by omega, by omega, by omega, by go_num, rfl⟩
            case measure => simp [intOf]; omega
        · go_wp2
          go_ret
          exact ⟨⟨_, rfl⟩, rfl⟩

/-- Draws turn no string. -/
theorem Strs.drewN {w : World} {a : Option Addr} {len : Nat} {ss : List ByteArray} (h : Strs w a len ss) (n : Nat) : Strs (w.drewN n) a len ss := h

set_option maxHeartbeats 400000 in
/-- zzB1Bytes answers a number that is not great; it only reads. -/
theorem bytes2_any (a : Option Addr) (len cap : Nat) (ss : List ByteArray) (w : World) (hs : Strs w a len ss) :
    Calls Try.prog 12 #[.slice a len cap] w fun e w' => (∃ n : Int, e = .returned (.int .i64 n) ∧ 0 ≤ n ∧ n ≤ 4194304) ∧ w' = w := by
  obtain ⟨hlen, hmax, hs⟩ := hs
  unfold maxLen at hmax
  go_enter Try.func12, Try.ntmps12
  go_wp2
  go_loop [3, 4] (fun n i => ∃ (k : Nat) (z : Int), 0 ≤ z ∧ z ≤ 1048576 ∧ k ≤ len ∧ i = .int .i64 k ∧ n = .int .i64 z) (fun _ i => len - (intOf i).toNat)
  case atStart => exact ⟨0, 0, by omega, by omega, Nat.zero_le _, rfl, rfl⟩
  case round =>
    obtain ⟨k, z, hz0, hz1, hk, rfl, rfl⟩ := hrel
    by_cases hlt : k < len
    · rcases hs with h0 | ⟨b, off, rfl, hc⟩
      · omega
      have hck := hc k hlt
      obtain ⟨s, hse⟩ : ∃ s, s = ss.getD k ByteArray.empty := ⟨_, rfl⟩
      rw [← hse] at hck
      clear hse hc
      go_wp2
      · go_ret
        exact ⟨⟨_, rfl, by omega, by omega⟩, rfl⟩
      · go_ret
        exact ⟨⟨_, rfl, by omega, by omega⟩, rfl⟩
      · go_round
        case rel => exact ⟨k + 1, _, by omega, by omega, by omega, by go_num, rfl⟩
        case measure => simp [intOf]; omega
    · go_wp2
      go_ret
      exact ⟨⟨_, rfl, by omega, by omega⟩, rfl⟩

set_option maxHeartbeats 400000 in
/-- terms.sameNames where one list alone is nil, or the lengths part. -/
theorem same_no (a b : Option Addr) (len cap len' cap' : Nat) (w : World) (h : ¬ (a.isNone = b.isNone ∧ len = len')) :
    Calls Try.prog 31 #[.slice a len cap, .slice b len' cap'] w fun e w' => e = .returned (.bool false) ∧ w' = w := by
  have hnil := fun (w : World) (a : Option Addr) (l c : Nat) => Lib.run_eql_slice_nil (P := Try.prog) w 22 9 a l c 0 0 Try.underlying22
  by_cases hn : a.isNone = b.isNone
  · have hl : ¬ (len : Int) = (len' : Int) := fun e => h ⟨hn, by omega⟩
    clear h
    go_enter Try.func31, Try.ntmps31
    go_wp2
    go_ret
    exact ⟨rfl, rfl⟩
  · clear h
    go_enter Try.func31, Try.ntmps31
    go_wp2
    go_ret
    exact ⟨rfl, rfl⟩

set_option maxHeartbeats 400000 in
theorem zzsame_no (a b : Option Addr) (len cap len' cap' : Nat) (w : World) (h : ¬ (a.isNone = b.isNone ∧ len = len')) :
    Calls Try.prog 25 #[.slice a len cap, .slice b len' cap'] w fun e w' => e = .returned (.bool false) ∧ w' = w := by
  have HH : Hid (¬ (a.isNone = b.isNone ∧ len = len')) := h
  clear h
  go_enter Try.func25, Try.ntmps25
  go_wp2_with (go_at_call 31; refine (same_no _ _ _ _ _ _ _ HH.out).mono ?_; rintro e w' ⟨rfl, rfl⟩)
  go_ret
  exact ⟨rfl, rfl⟩

theorem below_after {w w2 w3 : World} {n : Nat} (h1 : Below (w.drewN n).heap.size (w.drewN n) w2) (h2 : Below w2.heap.size w2 w3) : Below w.heap.size w w3 :=
  (below_drewn (Below.refl _ _) n).trans (h1.trans (h2.mono h1.size))

theorem below_more {w w2 w3 : World} (h1 : Below w.heap.size w w2) (h2 : Below w2.heap.size w2 w3) : Below w.heap.size w w3 := h1.trans (h2.mono h1.size)

theorem eqTo_hit (rr qq : List ByteArray) (k : Nat) (s t : ByteArray) (hs : s = rr.getD k ByteArray.empty) (ht : t = qq.getD k ByteArray.empty) (h : (s.toList == t.toList) = true) : eqTo rr qq (k + 1) = eqTo rr qq k := by
  subst hs ht
  simp only [eqTo, key, h, Bool.and_true]

theorem eqTo_miss (rr qq : List ByteArray) (k : Nat) (s t : ByteArray) (hs : s = rr.getD k ByteArray.empty) (ht : t = qq.getD k ByteArray.empty) (h : (s.toList == t.toList) = false) : eqTo rr qq (k + 1) = false := by
  subst hs ht
  simp only [eqTo, key, h, Bool.and_false]

set_option maxHeartbeats 1000000 in
theorem sorted_walk (a b : Option Addr) (len cap len' cap' : Nat) (ss tt : List ByteArray) (w : World) (hs : Strs w a len ss) (ht : Strs w b len' tt) (hzs : Small ss) (hzt : Small tt) :
    Calls Try.prog 8 #[.slice a len cap, .slice b len' cap'] w fun e w' => e = .returned (.bool true) ∧ Below w.heap.size w w' := by
  have hmax := hs.2.1
  have hmax' := ht.2.1
  unfold maxLen at hmax hmax'
  have hnil := fun (w : World) (a : Option Addr) (l c : Nat) => Lib.run_eql_slice_nil (P := Try.prog) w 22 9 a l c 0 0 Try.underlying22
  go_enter Try.func8, Try.ntmps8
  go_wp2_with (first
    | (go_at_call 22; refine (guard22_any _ _ _ _ _ _ ss tt _ hs ht).mono ?_; rintro e w' ⟨⟨bo, rfl⟩, hw⟩; have hw2 := hw.symm; clear hw; subst hw2)
    | (go_at_call_of 12 a; refine (bytes2_any _ _ _ ss _ hs).mono ?_; rintro e w' ⟨⟨n, rfl, hn0, hn1⟩, hw⟩; have hw2 := hw.symm; clear hw; subst hw2)
    | (go_at_call_of 12 b; refine (bytes2_any _ _ _ tt _ ht).mono ?_; rintro e w' ⟨⟨n, rfl, hn0, hn1⟩, hw⟩; have hw2 := hw.symm; clear hw; subst hw2)
    | fail)
  all_goals first | (go_ret; exact ⟨rfl, Below.refl _ _⟩) | skip
  have hl : (len : Int) ≤ 4096 ∧ (len' : Int) ≤ 4096 := by assumption
  refine (distinct_any a len cap ss _ hs).mono ?_
  rintro e w1 ⟨b1, rfl, hd1, n1, rfl⟩
  cases b1 with
  | false =>
    go_wp2
    go_ret
    exact ⟨rfl, below_drewn (Below.refl _ _) _⟩
  | true =>
    have hds := hd1 rfl
    clear hd1
    go_wp2_with fail
    refine (distinct_any b len' cap' tt _ (ht.drewN _)).mono ?_
    rintro e w1 ⟨b2, rfl, hd2, n2, rfl⟩
    cases b2 with
    | false =>
      go_wp2
      go_ret
      exact ⟨rfl, below_drewn (Below.refl _ _) _⟩
    | true =>
      have hdt := hd2 rfl
      clear hd2
      go_wp2_with fail
      refine (clone_any a len cap ss _ (hs.drewN _) (by omega)).mono ?_
      rintro e w2 ⟨a1, cap1, rfl, hs1, hq1, hb1⟩
      clear hq1 hs
      have HB1 : Hid _ := hb1
      have ht2 : Strs w2 b len' tt := (ht.drewN _).later hb1
      clear hb1 ht
      go_wp2_with fail
      refine (clone_any b len' cap' tt _ ht2 (by omega)).mono ?_
      rintro e w3 ⟨b1, cap2, rfl, ht3, hq2, hb2⟩
      clear hq2 ht2
      have hs3 : Strs w3 a1 len ss := hs1.later hb2
      have HB2 : Hid _ := hb2
      clear hb2 hs1
      by_cases hcase : a1.isNone = b1.isNone ∧ len = len'
      · obtain ⟨hne, hll⟩ := hcase
        subst hll
        have HN : Hid (a1.isNone = b1.isNone) := hne
        go_wp2_with fail
        refine (sortcopy_any a1 len cap1 ss _ hs3 (by omega) hzs).mono ?_
        rintro e w4 ⟨a2, cap3, rr, rfl, hr4, hpr, hsr, hb4⟩
        have hs4 := hs3.later hb4
        have ht4 := ht3.later hb4
        have HB4 : Hid (Below w.heap.size w w4) := below_more (below_after HB1.out HB2.out) hb4
        clear hb4 hs3 ht3
        go_wp2_with fail
        refine (sortcopy_any b1 len cap2 tt _ ht4 (by omega) hzt).mono ?_
        rintro e w5 ⟨b2, cap4, qq, rfl, hq5, hpq, hsq, hb5⟩
        have hs5 := hs4.later hb5
        have ht5 := ht4.later hb5
        have hr5 := hr4.later hb5
        have HB5 : Hid (Below w.heap.size w w5) := below_more HB4.out hb5
        have HL : Hid (allS ss tt = eqTo rr qq len) := sorted_law len hs5.1 ht5.1 hds hdt hpr hpq hsr hsq
        clear hb5 hs4 ht4 hr4 HB4 HB1 HB2 hds hdt hpr hpq hsr hsq hne
        go_wp2
        go_loopw [5, 8] (fun v i wr => ∃ (k n : Nat), k ≤ len ∧ i = .int .i64 k ∧ v = .bool (eqTo rr qq k) ∧ wr = w5.drewN n) (fun _ i _ => len - (intOf i).toNat)
        case atStart => exact ⟨0, 0, Nat.zero_le _, rfl, rfl, rfl⟩
        case round =>
          obtain ⟨k, m, hk, rfl, rfl, rfl⟩ := hrel
          by_cases hlt : k < len
          · obtain ⟨_, _, h0 | ⟨c1, o1, rfl, hc1⟩⟩ := hr5
            · omega
            obtain ⟨_, _, h0 | ⟨c2, o2, rfl, hc2⟩⟩ := hq5
            · omega
            have hk1 := hc1 k hlt
            have hk2 := hc2 k hlt
            obtain ⟨s, hse⟩ : ∃ s, s = rr.getD k ByteArray.empty := ⟨_, rfl⟩
            obtain ⟨t, hte⟩ : ∃ t, t = qq.getD k ByteArray.empty := ⟨_, rfl⟩
            rw [← hse] at hk1
            rw [← hte] at hk2
            have HS : Hid (s = rr.getD k ByteArray.empty) := hse
            have HT : Hid (t = qq.getD k ByteArray.empty) := hte
            clear hse hte hc1 hc2
            have g1 : (k : Int) < (len : Int) := by omega
            go_wp2
            go_quiet (fail)
            go_wp2
            · have hne : (!(s.toList == t.toList)) = true := by assumption
              go_roundw
              case rel => exact ⟨k + 1, _, by omega, by go_num, by rw [eqTo_miss rr qq k s t HS.out HT.out (by simpa using hne)], rfl⟩
              case measure => simp [intOf]; omega
            · have hne : (!(s.toList == t.toList)) = false := by assumption
              go_roundw
              case rel => exact ⟨k + 1, _, by omega, by go_num, by rw [eqTo_hit rr qq k s t HS.out HT.out (by simpa using hne)], rfl⟩
              case measure => simp [intOf]; omega
          · have hke : k = len := by omega
            have HK : Hid (k = len) := hke
            clear hke
            go_wp2_with (go_at_call 25; refine (zzsame_any _ _ _ _ _ ss tt _ (hs5.drewN _) (ht5.drewN _) HN.out).mono ?_; rintro e w' ⟨rfl, rfl⟩)
            go_ret
            exact ⟨ret_bool (by rw [HL.out, HK.out]; simp), below_drewn HB5.out _⟩
      · have HC : Hid (¬ (a1.isNone = b1.isNone ∧ len = len')) := hcase
        by_cases hne : a1.isNone = b1.isNone
        · have hll : ¬ (len : Int) = (len' : Int) := fun e => hcase ⟨hne, by omega⟩
          clear hcase
          go_wp2_with (go_at_call 25; refine (zzsame_no _ _ _ _ _ _ _ HC.out).mono ?_; rintro e w' ⟨rfl, rfl⟩)
          go_ret
          exact ⟨rfl, below_after HB1.out HB2.out⟩
        · clear hcase
          go_wp2_with (go_at_call 25; refine (zzsame_no _ _ _ _ _ _ _ HC.out).mono ?_; rintro e w' ⟨rfl, rfl⟩)
          go_ret
          exact ⟨rfl, below_after HB1.out HB2.out⟩
end Go.Proofs.Qxb6000910a
