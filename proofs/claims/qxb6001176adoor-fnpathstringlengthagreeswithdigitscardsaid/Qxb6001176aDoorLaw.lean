/-
  FnPathStringLengthAgreesWithDigits: the walk.
-/
import Derived.Test.Qxb6001176aDoorString
namespace Go.Proofs.Qxb6001176aDoor
open Go.RowKit

theorem ret_bool {a b : Bool} (h : a = b) : Ending.returned (.bool a) = .returned (.bool b) := by rw [h]

theorem ints_bd {w : World} {a : Option Addr} {len : Nat} {z : Nat → Int} (h : Ints w a len z) : ∀ j, j < len → -9223372036854775808 ≤ z j ∧ z j ≤ 9223372036854775807 := by
  intro j hj
  rcases h.2 with h0 | ⟨b, off, _, hc⟩
  · omega
  · exact (hc j hj).2

theorem step_pos (ss : List ByteArray) (z : Nat → Int) (k u : Nat) (hu : z k = u) : tot ss z (k + 1) = tot ss z k + (Lib.nDigits u + 2) := by
  simp only [tot, stepLen, hu, if_pos (show (0 : Int) ≤ (u : Int) by omega), Int.toNat_natCast]

theorem step_neg (ss : List ByteArray) (z : Nat → Int) (k : Nat) (h : ¬ 0 ≤ z k) (hk : 0 < k) : tot ss z (k + 1) = tot ss z k + 1 + (ss.getD k ByteArray.empty).size := by
  simp only [tot, stepLen, if_neg h, if_pos hk]; omega

theorem step_neg0 (ss : List ByteArray) (z : Nat → Int) (k : Nat) (h : ¬ 0 ≤ z k) (hk : ¬ 0 < k) : tot ss z (k + 1) = tot ss z k + (ss.getD k ByteArray.empty).size := by
  simp only [tot, stepLen, if_neg h, if_neg hk]; omega

set_option maxHeartbeats 1000000 in
theorem law_walk (a b : Option Addr) (len cap len' cap' : Nat) (ss : List ByteArray) (z : Nat → Int) (w : World) (hs : Strs w a len ss) (hz : Ints w b len' z)
    (htab : Lib.TabIs Tryd.prog w "internal/strconv.uint64pow10" .u64 Lib.pow10Tab) :
    Calls Tryd.prog 4 #[.slice a len cap, .slice b len' cap'] w fun e w' => e = .returned (.bool true) ∧ Below w.heap.size w w' := by
  have hmax := hs.2.1
  have hmax' := hz.1
  unfold maxLen at hmax hmax'
  have hm' := hz.1
  go_enter Tryd.func4, Tryd.ntmps4
  go_wp2_with fail
  refine (guard11_any a b len cap len' cap' ss _ hs hm').mono ?_
  rintro e w' ⟨⟨bo, rfl, hbo⟩, hw⟩
  have hw2 := hw.symm
  clear hw
  subst hw2
  have HBO : Hid (bo = 1 → ∀ j, j < len → (ss.getD j ByteArray.empty).size ≤ 1048576) := hbo
  clear hbo
  by_cases hb1 : bo = 1
  case neg =>
    have hbf : (bo == 1) = false := by simpa using hb1
    go_wp2
    go_ret
    exact ⟨rfl, Below.refl _ _⟩
  subst hb1
  have HSZ : Hid (∀ j, j < len → (ss.getD j ByteArray.empty).size ≤ 1048576) := HBO.out rfl
  clear HBO
  by_cases hl1 : (len : Int) ≤ 65536
  case neg =>
    go_wp2
    go_ret
    exact ⟨rfl, Below.refl _ _⟩
  by_cases hl2 : (len' : Int) ≤ 65536
  case neg =>
    go_wp2
    go_ret
    exact ⟨rfl, Below.refl _ _⟩
  go_wp2_with fail
  refine (pathBytes_any a b len cap len' cap' ss _ hs (by omega) (by omega)).mono ?_
  rintro e w' ⟨⟨m, rfl⟩, hw⟩
  have hw2 := hw.symm
  clear hw
  subst hw2
  by_cases hm1 : m ≤ 1048576
  case neg =>
    go_wp2
    go_ret
    exact ⟨rfl, Below.refl _ _⟩
  by_cases hll : len = len'
  case neg =>
    have hli : ¬ (len : Int) = (len' : Int) := by omega
    go_wp2
    go_ret
    exact ⟨rfl, Below.refl _ _⟩
  subst hll
  go_wp2_with fail
  refine (cloneS_any a len cap ss _ hs (by omega)).mono ?_
  rintro e w1 ⟨a1, cap1, rfl, hs1, hq1, hb1⟩
  clear hq1
  have hz1 := hz.later hb1
  have ht1 := tab_later htab hb1
  go_wp2_with fail
  refine (cloneI_any b len cap' z _ hz1 (by omega)).mono ?_
  rintro e w2 ⟨b1, cap2, rfl, hz2, hb2⟩
  have hs2 := hs1.later hb2
  have ht2 := tab_later ht1 hb2
  have HB : Hid (Below w.heap.size w w2) := hb1.trans (hb2.mono hb1.size)
  clear hs1 hz1 ht1 hb1 hb2 hs hz htab
  have HTAB : Hid _ := ht2
  clear ht2
  have hbd := ints_bd hz2
  have HTOT : Hid (∀ k, k ≤ len → tot ss z k ≤ k * 1048600) := tot_le ss z len (fun j hj => (hbd j hj).2) HSZ.out
  have HBD : Hid _ := hbd
  clear hbd
  go_wp2
  go_loop [5, 6] (fun t i => ∃ k : Nat, k ≤ len ∧ i = .int .i64 k ∧ t = .int .i64 (tot ss z k)) (fun _ i => len - (intOf i).toNat)
  case atStart => exact ⟨0, Nat.zero_le _, rfl, rfl⟩
  case round =>
    obtain ⟨k, hk, rfl, rfl⟩ := hrel
    have htk := HTOT.out k hk
    by_cases hlt : k < len
    · obtain ⟨_, _, h0 | ⟨c1, o1, rfl, hc1⟩⟩ := hs2
      · omega
      obtain ⟨_, h0 | ⟨c2, o2, rfl, hc2⟩⟩ := hz2
      · omega
      have hk1 := hc1 k hlt
      obtain ⟨hk2, hz0, hz1⟩ := hc2 k hlt
      have hsz := HSZ.out k hlt
      obtain ⟨s, hse⟩ : ∃ s, s = ss.getD k ByteArray.empty := ⟨_, rfl⟩
      rw [← hse] at hk1 hsz
      have HS : Hid (s = ss.getD k ByteArray.empty) := hse
      clear hse hc1 hc2
      have hg1 : (k : Int) < (len : Int) := by omega
      by_cases hpos : 0 ≤ z k
      · obtain ⟨u, hu⟩ := Int.eq_ofNat_of_zero_le hpos
        have HE : Hid (tot ss z (k + 1) = tot ss z k + (Lib.nDigits u + 2)) := step_pos ss z k u hu
        have h20 := Lib.nDigits_le20 u (by omega)
        rw [hu] at hk2 hz0 hz1
        clear hu hpos
        go_wp2_with (go_at_call 12; refine (zzdigits_any u _ (by omega)).mono ?_; rintro e w' ⟨rfl, rfl⟩)
        go_round
        case rel => exact ⟨k + 1, by omega, by go_num, by rw [HE.out]; go_num⟩
        case measure => simp [intOf]; omega
      · by_cases hk0 : 0 < k
        · have HE : Hid (tot ss z (k + 1) = tot ss z k + 1 + s.size) := by rw [HS.out]; exact step_neg ss z k hpos hk0
          go_wp2
          go_round
          case rel => exact ⟨k + 1, by omega, by go_num, by rw [HE.out]; go_num⟩
          case measure => simp [intOf]; omega
        · have HE : Hid (tot ss z (k + 1) = tot ss z k + s.size) := by rw [HS.out]; exact step_neg0 ss z k hpos hk0
          go_wp2
          go_round
          case rel => exact ⟨k + 1, by omega, by go_num, by rw [HE.out]; go_num⟩
          case measure => simp [intOf]; omega
    · obtain rfl : k = len := by omega
      go_wp2_with fail
      refine (newPath_any a1 b1 k cap1 cap2 ss z _ hs2 hz2 (by omega)).mono ?_
      rintro e w3 ⟨pb, sb, rfl, hp0, hp1, hst, hb3⟩
      have ht3 := tab_later HTAB.out hb3
      have HB3 : Hid (Below w.heap.size w w3) := HB.out.trans (hb3.mono HB.out.size)
      clear hb3 HTAB HB
      go_wp2_with fail
      refine (string_any pb sb k ss z _ hp0 hp1 hst ht3 (by omega) HBD.out HSZ.out).mono ?_
      rintro e w4 ⟨l, rfl, hl, hb4⟩
      have HL : Hid (l.length = tot ss z k) := hl
      clear hl
      go_wp2
      go_ret
      exact ⟨ret_bool (by have := HL.out; simp [this]), HB3.out.trans (hb4.mono HB3.out.size)⟩
end Go.Proofs.Qxb6001176aDoor
