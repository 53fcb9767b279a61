/-
  FnSameNamesAcceptsReordering: the walk.
-/
import Derived.Test.Qxb6000910aStrs
namespace Go.Proofs.Qxb6000910a
open Go.RowKit

set_option maxHeartbeats 400000 in
/-- A guard on length: some bool. -/
theorem guard27_any (a : Option Addr) (len cap : Nat) (ss : List ByteArray) (w : World) (hs : Strs w a len ss) :
    Calls Try.prog 27 #[.slice a len cap] w fun e w' => RetBool e ∧ w' = w := by
  obtain ⟨hlen, hmax, hs⟩ := hs
  unfold maxLen at hmax
  go_enter Try.func27, Try.ntmps27
  go_wp2
  · go_ret
    exact ⟨⟨_, rfl⟩, rfl⟩
  go_loop [3, 4] (fun n i => ∃ (k : Nat) (z : Int), k ≤ len ∧ i = .int .i64 k ∧ n = .int .i64 z) (fun _ i => len - (intOf i).toNat)
  case atStart => exact ⟨0, _, Nat.zero_le _, rfl, rfl⟩
  case round =>
    obtain ⟨k, z, hk, rfl, rfl⟩ := hrel
    by_cases hlt : k < len
    · rcases hs with h0 | ⟨b, off, rfl, hc⟩
      · omega
      have hck := hc k hlt
      obtain ⟨s, hse⟩ : ∃ s, s = ss.getD k ByteArray.empty := ⟨_, rfl⟩
      rw [← hse] at hck
      clear hse hc
      go_wp2
      · go_ret
        exact ⟨⟨_, rfl⟩, rfl⟩
      · go_ret
        exact ⟨⟨_, rfl⟩, rfl⟩
      · go_round
        case rel => exact ⟨k + 1, _, by omega, by go_num, rfl⟩
        case measure => simp [intOf]; omega
    · go_wp2
      go_ret
      exact ⟨⟨_, rfl⟩, rfl⟩

/-- Is each of ss among tt? -/
def allS (ss tt : List ByteArray) : Bool := ss.all fun s => hasS tt s

theorem allS_snoc (ss tt : List ByteArray) (k : Nat) (h : k < ss.length) :
    allS (ss.take (k + 1)) tt = (allS (ss.take k) tt && hasS tt (ss.getD k ByteArray.empty)) := by
  unfold allS
  rw [List.take_succ_eq_append_getElem h, List.all_append]
  simp [List.getD, h]

theorem allS_miss (ss tt : List ByteArray) (k : Nat) (h : k < ss.length) (hx : hasS tt (ss.getD k ByteArray.empty) = false) : allS ss tt = false := by
  unfold allS
  rw [List.all_eq_false]
  refine ⟨ss[k], List.getElem_mem h, ?_⟩
  simpa [List.getD, h] using hx

theorem hasS_mem {ss : List ByteArray} {s : ByteArray} (h : s ∈ ss) : hasS ss s = true := by
  unfold hasS
  rw [List.any_eq_true]
  exact ⟨s, h, by simp⟩

theorem allS_reverse (ss : List ByteArray) : allS ss ss.reverse = true := by
  unfold allS
  rw [List.all_eq_true]
  intro s hs
  exact hasS_mem (by simpa using hs)

set_option maxHeartbeats 400000 in
/-- terms.sameNames on two lists of one length, both nil or neither. It only reads. -/
theorem same_any (a b : Option Addr) (len cap cap' : Nat) (ss tt : List ByteArray) (w : World) (hs : Strs w a len ss) (ht : Strs w b len tt) (hn : a.isNone = b.isNone) :
    Calls Try.prog 31 #[.slice a len cap, .slice b len cap'] w fun e w' => e = .returned (.bool (allS ss tt)) ∧ w' = w := by
  obtain ⟨hlen, hmax, hs⟩ := hs
  unfold maxLen at hmax
  have hnil := fun (w : World) (a : Option Addr) (l c : Nat) => Lib.run_eql_slice_nil (P := Try.prog) w 22 9 a l c 0 0 Try.underlying22
  go_enter Try.func31, Try.ntmps31
  go_wp2
  go_loop [21] (fun i => ∃ k : Nat, k ≤ len ∧ i = .int .i64 k ∧ allS (ss.take k) tt = true) (fun i => len - (intOf i).toNat)
  case atStart => exact ⟨0, Nat.zero_le _, rfl, rfl⟩
  case round =>
    obtain ⟨k, hk, rfl, hno⟩ := hrel
    have HN : Hid (allS (ss.take k) tt = true) := hno
    clear hno
    by_cases hlt : k < len
    · rcases hs with h0 | ⟨b, off, rfl, hc⟩
      · omega
      have hck := hc k hlt
      obtain ⟨s, hse⟩ : ∃ s, s = ss.getD k ByteArray.empty := ⟨_, rfl⟩
      rw [← hse] at hck
      have HS : Hid (s = ss.getD k ByteArray.empty) := hse
      clear hse hc
      go_wp2_with (go_at_call 28; refine (holds_any _ _ _ tt _ _ ht).mono ?_; rintro e w' ⟨rfl, rfl⟩)
      · go_ret
        exact ⟨ret_bool (allS_miss ss tt k (by omega) (by rw [← HS.out]; simpa using ‹(!hasS tt s) = true›)).symm, rfl⟩
      · go_round
        case rel => exact ⟨k + 1, by omega, by go_num, by rw [allS_snoc ss tt k (by omega), HN.out, ← HS.out, Bool.true_and]; simpa using ‹(!hasS tt s) = false›⟩
        case measure => simp [intOf]; omega
    · go_wp2
      go_ret
      exact ⟨ret_bool (by rw [← HN.out, List.take_of_length_le (by omega)]), rfl⟩

set_option maxHeartbeats 400000 in
/-- The shim. -/
theorem zzsame_any (a b : Option Addr) (len cap cap' : Nat) (ss tt : List ByteArray) (w : World) (hs : Strs w a len ss) (ht : Strs w b len tt) (hn : a.isNone = b.isNone) :
    Calls Try.prog 25 #[.slice a len cap, .slice b len cap'] w fun e w' => e = .returned (.bool (allS ss tt)) ∧ w' = w := by
  have HN : Hid (a.isNone = b.isNone) := hn
  clear hn
  go_enter Try.func25, Try.ntmps25
  go_wp2_with (go_at_call 31; refine (same_any _ _ _ _ _ ss tt _ hs ht HN.out).mono ?_; rintro e w' ⟨rfl, rfl⟩)
  go_ret
  exact ⟨rfl, rfl⟩

set_option maxHeartbeats 400000 in
/-- zzB1Reversed: nil stays nil; else a new slice over the strings from the last to the first. -/
theorem reversed_any (a : Option Addr) (len cap : Nat) (ss : List ByteArray) (w : World) (hs : Strs w a len ss) (hsm : len ≤ 65536) :
    Calls Try.prog 18 #[.slice a len cap] w fun e w' => ∃ a' cap', e = .returned (.slice a' len cap') ∧ Strs w' a' len ss.reverse ∧ a'.isNone = a.isNone ∧ Below w.heap.size w w' := by
  have hs0 := hs
  obtain ⟨hlen, hmax, hs⟩ := hs
  have hmax0 := hmax
  unfold maxLen at hmax
  obtain ⟨i0, hi, hz0, hz1, hz2⟩ := info_parts Try.info9
  have hnil := fun (w : World) (a : Option Addr) (l c : Nat) => Lib.run_eql_slice_nil (P := Try.prog) w 22 9 a l c 0 0 Try.underlying22
  cases a with
  | none =>
    have h0 : len = 0 := by rcases hs with h0 | ⟨b, off, h, _⟩ <;> simp_all
    go_enter Try.func18, Try.ntmps18
    go_wp2
    go_ret
    subst h0
    exact ⟨none, 0, rfl, ⟨by simpa using hs0.1, Nat.zero_le _, .inl rfl⟩, rfl, Below.refl _ _⟩
  | some ad =>
    go_enter Try.func18, Try.ntmps18
    go_wp2_with (at_make; refine wpList_make_full _ rfl _ _ 22 rfl w.heap.size 9 i0 (.string ByteArray.empty) 1 Try.underlying22 hi hz0 hz1 .i64 .i64 _ _ len rfl rfl rfl rfl (by rw [hz2]; omega) (by unfold maxLen; omega) (Nat.le_refl _) ?_; intro w1 hown hgrow)
    go_loopw [4] (fun i wr => ∃ (k : Nat) (xs : List Value), k ≤ len ∧ i = .int .i64 k ∧ wr.ownsRow w.heap.size 9 1 (.slice (some ⟨w.heap.size, 0, none⟩) len len) len xs ∧
        Below w.heap.size w wr ∧ ∀ j, j < k → xs[len - 1 - j]? = some (.string (ss.getD j ByteArray.empty))) (fun i _ => len - (intOf i).toNat)
    case atStart => exact ⟨0, _, Nat.zero_le _, rfl, hown, (Below.refl _ _).grown hgrow (Nat.le_refl _) (fun k h => by cases h), fun j h => by omega⟩
    case round =>
      obtain ⟨k, xs, hk, rfl, ho, hb, hx⟩ := hrel
      have HX : Hid (∀ j, j < k → xs[len - 1 - j]? = some (.string (ss.getD j ByteArray.empty))) := hx
      clear hx
      by_cases hlt : k < len
      · rcases hs with h0 | ⟨b, off, had, hc⟩
        · omega
        cases had
        have hck := hc k hlt
        have hbl : b < w.heap.size := block_lt_of_cell hck
        rw [← hb.cell (p := ⟨b, off + k, none⟩) hbl] at hck
        obtain ⟨s, hse⟩ : ∃ s, s = ss.getD k ByteArray.empty := ⟨_, rfl⟩
        rw [← hse] at hck
        have HS : Hid (s = ss.getD k ByteArray.empty) := hse
        obtain ⟨⟨v, _, hv⟩, hf⟩ := own_cell ho (len - 1 - k) (by omega)
        obtain ⟨ho', hb'⟩ := own_store (Nat.le_refl _) s (len - 1 - k) ho hb
        have hj : ((len : Int) - 1 - (k : Int)).toNat = len - 1 - k := by omega
        clear hse hc hs0
        go_wp2
        go_roundw
        case rel =>
          refine ⟨k + 1, _, by omega, by go_num, ho', hb', fun j hj => ?_⟩
          have hxl := ho.1
          by_cases hjk : j = k
          · subst hjk
            rw [← HS.out, List.getElem?_set_self (by omega)]
          · rw [List.getElem?_set_ne (by omega)]
            exact HX.out j (by omega)
        case measure => simp [intOf]; omega
      · have hkl : k = len := by omega
        go_wp2
        go_ret
        exact ⟨_, _, rfl, own_strs ho (by simpa using hlen) hmax0 (fun j hj => by
          have e := HX.out (len - 1 - j) (by omega)
          rw [show len - 1 - (len - 1 - j) = j by omega] at e
          rw [e]
          simp only [List.getD]
          rw [List.getElem?_reverse (by omega), hlen]), rfl, hb⟩

set_option maxHeartbeats 400000 in
theorem reorder_walk (a : Option Addr) (len cap : Nat) (ss : List ByteArray) (w : World) (hs : Strs w a len ss) :
    Calls Try.prog 10 #[.slice a len cap] w fun e w' => e = .returned (.bool true) ∧ Below w.heap.size w w' := by
  have hmax := hs.2.1
  unfold maxLen at hmax
  go_enter Try.func10, Try.ntmps10
  go_wp2_with (first
    | (go_at_call 27; refine (guard27_any _ _ _ ss _ hs).mono ?_; rintro e w' ⟨⟨b, rfl⟩, rfl⟩)
    | (go_at_call 12; refine (bytes_any _ _ _ ss _ hs).mono ?_; rintro e w' ⟨⟨n, rfl⟩, rfl⟩)
    | fail)
  all_goals first | (go_ret; exact ⟨rfl, Below.refl _ _⟩) | skip
  have hl : (len : Int) ≤ 4096 := by assumption
  refine (clone_any a len cap ss _ hs (by omega)).mono ?_
  rintro e w1 ⟨a1, cap1, rfl, hs1, hn1, hb1⟩
  have HN1 : Hid (a1.isNone = a.isNone) := hn1
  clear hn1
  go_wp2_with fail
  refine (reversed_any a1 len cap1 ss _ hs1 (by omega)).mono ?_
  rintro e w2 ⟨a2, cap2, rfl, hs2, hn2, hb2⟩
  have HN2 : Hid (a2.isNone = a1.isNone) := hn2
  clear hn2
  have hs1' := hs1.later hb2
  have HB : Below w1.heap.size w1 w2 := hb2
  go_wp2_with (go_at_call 25; refine (zzsame_any _ _ _ _ _ ss ss.reverse _ hs1' hs2 HN2.out.symm).mono ?_; rintro e w' ⟨rfl, rfl⟩)
  go_ret
  exact ⟨ret_bool (allS_reverse ss), hb1.trans (HB.mono hb1.size)⟩
end Go.Proofs.Qxb6000910a
