/-
  The guards on length, the clones, digits: the walks.
-/
import Derived.Test.Qxb6001176aDoorRows
import Derived.WalkKit
import Derived.WalkSpells
import Derived.WalkLawsBesides
import Derived.Lib.ItoaLen
namespace Go.Proofs.Qxb6001176aDoor
open Go.RowKit

/-- The slice value 'a, len' leads to the strings ss in w. -/
def Strs (w : World) (a : Option Addr) (len : Nat) (ss : List ByteArray) : Prop :=
  ss.length = len ∧ len ≤ maxLen ∧ (len = 0 ∨ ∃ b off, a = some ⟨b, off, none⟩ ∧ ∀ i, i < len → w.cell? ⟨b, off + i, none⟩ = some (.string (ss.getD i ByteArray.empty)))

/-- The slice value 'a, len' leads to the ints z 0, z 1, .. in w. -/
def Ints (w : World) (a : Option Addr) (len : Nat) (z : Nat → Int) : Prop :=
  len ≤ maxLen ∧ (len = 0 ∨ ∃ b off, a = some ⟨b, off, none⟩ ∧ ∀ i, i < len → w.cell? ⟨b, off + i, none⟩ = some (.int .i64 (z i)) ∧ -9223372036854775808 ≤ z i ∧ z i ≤ 9223372036854775807)

theorem Tryd.info9 : (Tryd.prog.info? 9).map (fun i => (i.zero, i.size, i.bytes)) = some (some (.string ByteArray.empty), 1, 16) := by kernel_rfl

/-- One more string stored into a row of the call's own. -/
theorem own_store {w wr : World} {len : Nat} {xs : List Value} {B g cap : Nat} (hB : B ≤ g) (u : ByteArray) (j : Nat)
    (ho : wr.ownsRow B 9 1 (.slice (some ⟨g, 0, none⟩) len cap) len xs) (hb : Below B w wr) :
    (wr.setCell ⟨g, j, none⟩ (.string u)).ownsRow B 9 1 (.slice (some ⟨g, 0, none⟩) len cap) len (xs.set j (.string u)) ∧ Below B w (wr.setCell ⟨g, j, none⟩ (.string u)) :=
  ⟨(ho.stored j (.string u)).1, hb.setCell hB _⟩

/-- The cells that a store may meet: there is one, and it is not frozen. -/
theorem own_cell {wr : World} {len : Nat} {xs : List Value} {B g cap : Nat} (ho : wr.ownsRow B 9 1 (.slice (some ⟨g, 0, none⟩) len cap) len xs) (j : Nat) (h : j < len) :
    (∃ v, xs[j]? = some v ∧ wr.cell? ⟨g, j, none⟩ = some v) ∧ wr.frozen? ⟨g, j, none⟩ = false := by
  have hl := ho.1
  refine ⟨?_, ho.frozenAt j⟩
  obtain ⟨v, hv⟩ : ∃ v, xs[j]? = some v := ⟨xs[j]'(by omega), List.getElem?_eq_getElem _⟩
  exact ⟨v, hv, by rw [ho.cellAt j (by omega), hv]⟩

/-- A row of the call's own that bears the strings ss. -/
theorem own_strs {wr : World} {len : Nat} {xs : List Value} {B g cap : Nat} {ss : List ByteArray} (ho : wr.ownsRow B 9 1 (.slice (some ⟨g, 0, none⟩) len cap) len xs)
    (hlen : ss.length = len) (hm : len ≤ maxLen) (h : ∀ j, j < len → xs[j]? = some (.string (ss.getD j ByteArray.empty))) : Strs wr (some ⟨g, 0, none⟩) len ss := by
  refine ⟨hlen, hm, Or.inr ⟨g, 0, rfl, fun i hi => ?_⟩⟩
  rw [Nat.zero_add, ho.cellAt i (by omega), h i hi]

/-- What the strings of an argument are in a later world. -/
theorem Strs.later {w w' : World} {a : Option Addr} {len : Nat} {ss : List ByteArray} (h : Strs w a len ss) (hb : Below w.heap.size w w') : Strs w' a len ss := by
  obtain ⟨h1, h2, h3⟩ := h
  refine ⟨h1, h2, ?_⟩
  rcases h3 with h3 | ⟨b, off, rfl, hc⟩
  · exact Or.inl h3
  · refine Or.inr ⟨b, off, rfl, fun i hi => ?_⟩
    have hl : b < w.heap.size := block_lt_of_cell (hc i hi)
    rw [hb.cell (p := ⟨b, off + i, none⟩) hl]
    exact hc i hi

set_option maxHeartbeats 400000 in
/-- cloneStrings: nil stays nil; else a new slice over the same strings. -/
theorem cloneS_any (a : Option Addr) (len cap : Nat) (ss : List ByteArray) (w : World) (hs : Strs w a len ss) (hsm : len ≤ 65536) :
    Calls Tryd.prog 7 #[.slice a len cap] w fun e w' => ∃ a' cap', e = .returned (.slice a' len cap') ∧ Strs w' a' len ss ∧ a'.isNone = a.isNone ∧ Below w.heap.size w w' := by
  have hs0 := hs
  obtain ⟨hlen, hmax, hs⟩ := hs
  have hmax0 := hmax
  unfold maxLen at hmax
  obtain ⟨i0, hi, hz0, hz1, hz2⟩ := info_parts Tryd.info9
  have hnil := fun (w : World) (a : Option Addr) (l c : Nat) => Lib.run_eql_slice_nil (P := Tryd.prog) w 22 9 a l c 0 0 Tryd.underlying22
  cases a with
  | none =>
    have h0 : len = 0 := by rcases hs with h0 | ⟨b, off, h, _⟩ <;> simp_all
    go_enter Tryd.func7, Tryd.ntmps7
    go_wp2
    go_ret
    subst h0
    exact ⟨none, 0, rfl, hs0, rfl, Below.refl _ _⟩
  | some ad =>
    go_enter Tryd.func7, Tryd.ntmps7
    go_wp2_with (at_make; refine wpList_make_full _ rfl _ _ 22 rfl w.heap.size 9 i0 (.string ByteArray.empty) 1 Tryd.underlying22 hi hz0 hz1 .i64 .i64 _ _ len rfl rfl rfl rfl (by rw [hz2]; omega) (by unfold maxLen; omega) (Nat.le_refl _) ?_; intro w1 hown hgrow)
    go_loopw [4] (fun i wr => ∃ (k : Nat) (xs : List Value), k ≤ len ∧ i = .int .i64 k ∧ wr.ownsRow w.heap.size 9 1 (.slice (some ⟨w.heap.size, 0, none⟩) len len) len xs ∧
        Below w.heap.size w wr ∧ ∀ j, j < k → xs[j]? = some (.string (ss.getD j ByteArray.empty))) (fun i _ => len - (intOf i).toNat)
    case atStart => exact ⟨0, _, Nat.zero_le _, rfl, hown, (Below.refl _ _).grown hgrow (Nat.le_refl _) (fun k h => by cases h), fun j h => by omega⟩
    case round =>
      obtain ⟨k, xs, hk, rfl, ho, hb, hx⟩ := hrel
      have HX : Hid (∀ j, j < k → xs[j]? = some (.string (ss.getD j ByteArray.empty))) := hx
      clear hx
      by_cases hlt : k < len
      · rcases hs with h0 | ⟨b, off, had, hc⟩
        · omega
        cases had
        have hck := hc k hlt
        have hbl : b < w.heap.size := block_lt_of_cell hck
        rw [← hb.cell (p := ⟨b, off + k, none⟩) hbl] at hck
        obtain ⟨s, hse⟩ : ∃ s, s = ss.getD k ByteArray.empty := ⟨_, rfl⟩
        rw [← hse] at hck
        have HS : Hid (s = ss.getD k ByteArray.empty) := hse
        obtain ⟨⟨v, _, hv⟩, hf⟩ := own_cell ho k hlt
        obtain ⟨ho', hb'⟩ := own_store (Nat.le_refl _) s k ho hb
        clear hse hc hs0
        go_wp2
        go_roundw
        case rel =>
          refine ⟨k + 1, _, by omega, by go_num, ho', hb', fun j hj => ?_⟩
          have hxl := ho.1
          by_cases hjk : j = k
          · subst hjk
            rw [← HS.out, List.getElem?_set_self (by omega)]
          · rw [List.getElem?_set_ne (by omega)]
            exact HX.out j (by omega)
        case measure => simp [intOf]; omega
      · have hkl : k = len := by omega
        go_wp2
        go_ret
        exact ⟨_, _, rfl, own_strs ho hlen hmax0 (fun j hj => HX.out j (by omega)), rfl, hb⟩

theorem Ints.later {w w' : World} {a : Option Addr} {len : Nat} {z : Nat → Int} (h : Ints w a len z) (hb : Below w.heap.size w w') : Ints w' a len z := by
  obtain ⟨h2, h3⟩ := h
  refine ⟨h2, ?_⟩
  rcases h3 with h3 | ⟨b, off, rfl, hc⟩
  · exact Or.inl h3
  · refine Or.inr ⟨b, off, rfl, fun i hi => ?_⟩
    have hl : b < w.heap.size := block_lt_of_cell (hc i hi).1
    rw [hb.cell (p := ⟨b, off + i, none⟩) hl]
    exact hc i hi

theorem Tryd.info3 : (Tryd.prog.info? 3).map (fun i => (i.zero, i.size, i.bytes)) = some (some (.int .i64 0), 1, 8) := by kernel_rfl

/-- One more value stored into a row of the call's own. -/
theorem ownv_store {w wr : World} {e size len : Nat} {xs : List Value} {B g cap : Nat} (hB : B ≤ g) (u : Value) (j : Nat)
    (ho : wr.ownsRow B e size (.slice (some ⟨g, 0, none⟩) len cap) len xs) (hb : Below B w wr) :
    (wr.setCell ⟨g, j, none⟩ u).ownsRow B e size (.slice (some ⟨g, 0, none⟩) len cap) len (xs.set j u) ∧ Below B w (wr.setCell ⟨g, j, none⟩ u) :=
  ⟨(ho.stored j u).1, hb.setCell hB _⟩

theorem ownv_cell {wr : World} {e size len : Nat} {xs : List Value} {B g cap : Nat} (ho : wr.ownsRow B e size (.slice (some ⟨g, 0, none⟩) len cap) len xs) (j : Nat) (h : j < len * size) :
    (∃ v, xs[j]? = some v ∧ wr.cell? ⟨g, j, none⟩ = some v) ∧ wr.frozen? ⟨g, j, none⟩ = false := by
  have hl := ho.1
  refine ⟨?_, ho.frozenAt j⟩
  obtain ⟨v, hv⟩ : ∃ v, xs[j]? = some v := ⟨xs[j]'(by omega), List.getElem?_eq_getElem _⟩
  exact ⟨v, hv, by rw [ho.cellAt j h, hv]⟩

set_option maxHeartbeats 400000 in
/-- cloneInts: nil stays nil; else a new slice over the same ints. -/
theorem cloneI_any (a : Option Addr) (len cap : Nat) (z : Nat → Int) (w : World) (hs : Ints w a len z) (hsm : len ≤ 65536) :
    Calls Tryd.prog 8 #[.slice a len cap] w fun e w' => ∃ a' cap', e = .returned (.slice a' len cap') ∧ Ints w' a' len z ∧ Below w.heap.size w w' := by
  have hs0 := hs
  obtain ⟨hmax, hs⟩ := hs
  have hmax0 := hmax
  unfold maxLen at hmax
  obtain ⟨i0, hi, hz0, hz1, hz2⟩ := info_parts Tryd.info3
  have hnil := fun (w : World) (a : Option Addr) (l c : Nat) => Lib.run_eql_slice_nil (P := Tryd.prog) w 23 3 a l c 0 0 Tryd.underlying23
  cases a with
  | none =>
    have h0 : len = 0 := by rcases hs with h0 | ⟨b, off, h, _⟩ <;> simp_all
    go_enter Tryd.func8, Tryd.ntmps8
    go_wp2
    go_ret
    subst h0
    exact ⟨none, 0, rfl, hs0, Below.refl _ _⟩
  | some ad =>
    go_enter Tryd.func8, Tryd.ntmps8
    go_wp2_with (at_make; refine wpList_make_full _ rfl _ _ 23 rfl w.heap.size 3 i0 (.int .i64 0) 1 Tryd.underlying23 hi hz0 hz1 .i64 .i64 _ _ len rfl rfl rfl rfl (by rw [hz2]; omega) (by unfold maxLen; omega) (Nat.le_refl _) ?_; intro w1 hown hgrow)
    go_loopw [4] (fun i wr => ∃ (k : Nat) (xs : List Value), k ≤ len ∧ i = .int .i64 k ∧ wr.ownsRow w.heap.size 3 1 (.slice (some ⟨w.heap.size, 0, none⟩) len len) len xs ∧
        Below w.heap.size w wr ∧ ∀ j, j < k → xs[j]? = some (.int .i64 (z j)) ∧ -9223372036854775808 ≤ z j ∧ z j ≤ 9223372036854775807) (fun i _ => len - (intOf i).toNat)
    case atStart => exact ⟨0, _, Nat.zero_le _, rfl, hown, (Below.refl _ _).grown hgrow (Nat.le_refl _) (fun k h => by cases h), fun j h => by omega⟩
    case round =>
      obtain ⟨k, xs, hk, rfl, ho, hb, hx⟩ := hrel
      have HX : Hid (∀ j, j < k → xs[j]? = some (.int .i64 (z j)) ∧ -9223372036854775808 ≤ z j ∧ z j ≤ 9223372036854775807) := hx
      clear hx
      by_cases hlt : k < len
      · rcases hs with h0 | ⟨b, off, had, hc⟩
        · omega
        cases had
        obtain ⟨hck, hq⟩ := hc k hlt
        have HQ : Hid _ := hq
        have hbl : b < w.heap.size := block_lt_of_cell hck
        rw [← hb.cell (p := ⟨b, off + k, none⟩) hbl] at hck
        obtain ⟨⟨v, _, hv⟩, hf⟩ := ownv_cell ho k (by omega)
        obtain ⟨ho', hb'⟩ := ownv_store (Nat.le_refl _) (.int .i64 (z k)) k ho hb
        clear hc hs0 hq
        go_wp2
        go_roundw
        case rel =>
          refine ⟨k + 1, _, by omega, by go_num, ho', hb', fun j hj => ?_⟩
          have hxl := ho.1
          by_cases hjk : j = k
          · subst hjk
            rw [List.getElem?_set_self (by omega)]
            exact ⟨rfl, HQ.out⟩
          · rw [List.getElem?_set_ne (by omega)]
            exact HX.out j (by omega)
        case measure => simp [intOf]; omega
      · have hkl : k = len := by omega
        go_wp2
        go_ret
        refine ⟨_, _, rfl, ⟨hmax0, Or.inr ⟨_, _, rfl, fun i hi => ?_⟩⟩, hb⟩
        rw [Nat.zero_add, ho.cellAt i (by omega), (HX.out i (by omega)).1]
        exact ⟨rfl, (HX.out i (by omega)).2⟩

set_option maxHeartbeats 400000 in
/-- The guard on length: some bool; where it is true no name is long. -/
theorem guard11_any (a b : Option Addr) (len cap len' cap' : Nat) (ss : List ByteArray) (w : World) (hs : Strs w a len ss) (hm' : len' ≤ maxLen) :
    Calls Tryd.prog 11 #[.slice a len cap, .slice b len' cap'] w fun e w' => (∃ bo : Nat, e = .returned (.bool (bo == 1)) ∧ (bo = 1 → ∀ j, j < len → (ss.getD j ByteArray.empty).size ≤ 1048576)) ∧ w' = w := by
  obtain ⟨hlen, hmax, hs⟩ := hs
  unfold maxLen at hmax hm'
  go_enter Tryd.func11, Tryd.ntmps11
  go_wp2
  · go_ret
    exact ⟨⟨0, rfl, fun h => by omega⟩, rfl⟩
  go_loop [5, 6] (fun n i => ∃ (k : Nat) (z : Int), 0 ≤ z ∧ z ≤ 1048576 ∧ k ≤ len ∧ i = .int .i64 k ∧ n = .int .i64 z ∧ ∀ j, j < k → (ss.getD j ByteArray.empty).size ≤ 1048576) (fun _ i => len - (intOf i).toNat)
  case atStart => exact ⟨0, _, by omega, by omega, Nat.zero_le _, rfl, rfl, fun j h => by omega⟩
  case round =>
    obtain ⟨k, z, hz0, hz1, hk, rfl, rfl, hj⟩ := hrel
    have HJ : Hid (∀ j, j < k → (ss.getD j ByteArray.empty).size ≤ 1048576) := hj
    clear hj
    by_cases hlt : k < len
    · rcases hs with h0 | ⟨b, off, rfl, hc⟩
      · omega
      have hck := hc k hlt
      obtain ⟨s, hse⟩ : ∃ s, s = ss.getD k ByteArray.empty := ⟨_, rfl⟩
      rw [← hse] at hck
      have HS : Hid (s = ss.getD k ByteArray.empty) := hse
      clear hse hc
      go_wp2
      · go_ret
        exact ⟨⟨0, rfl, fun h => by omega⟩, rfl⟩
      · go_ret
        exact ⟨⟨0, rfl, fun h => by omega⟩, rfl⟩
      · go_round
        case rel =>
          refine ⟨k + 1, _, by omega, by omega, by omega, by go_num, rfl, fun j hj => ?_⟩
          by_cases e : j = k
          · subst e; rw [← HS.out]; omega
          · exact HJ.out j (by omega)
        case measure => simp [intOf]; omega
    · have hkl : k = len := by omega
      have HK : Hid (k = len) := hkl
      clear hkl
      go_wp2
      · go_ret
        exact ⟨⟨0, rfl, fun h => by omega⟩, rfl⟩
      · go_ret
        exact ⟨⟨0, rfl, fun h => by omega⟩, rfl⟩
      · go_ret
        exact ⟨⟨1, rfl, fun _ j hj => HJ.out j (by rw [HK.out]; exact hj)⟩, rfl⟩

set_option maxHeartbeats 400000 in
/-- pathBytes: some number. -/
theorem pathBytes_any (a b : Option Addr) (len cap len' cap' : Nat) (ss : List ByteArray) (w : World) (hs : Strs w a len ss) (h1 : len ≤ 65536) (h2 : len' ≤ 65536) :
    Calls Tryd.prog 6 #[.slice a len cap, .slice b len' cap'] w fun e w' => (∃ n : Int, e = .returned (.int .i64 n)) ∧ w' = w := by
  obtain ⟨hlen, hmax, hs⟩ := hs
  unfold maxLen at hmax
  go_enter Tryd.func6, Tryd.ntmps6
  go_wp2
  go_loop [5, 6] (fun n i => ∃ (k : Nat) (z : Int), 0 ≤ z ∧ z ≤ 2097152 ∧ k ≤ len ∧ i = .int .i64 k ∧ n = .int .i64 z) (fun _ i => len - (intOf i).toNat)
  case atStart => exact ⟨0, _, by omega, by omega, Nat.zero_le _, rfl, rfl⟩
  case round =>
    obtain ⟨k, z, hz0, hz1, hk, rfl, rfl⟩ := hrel
    by_cases hlt : k < len
    · rcases hs with h0 | ⟨b, off, rfl, hc⟩
      · omega
      have hck := hc k hlt
      obtain ⟨s, hse⟩ : ∃ s, s = ss.getD k ByteArray.empty := ⟨_, rfl⟩
      rw [← hse] at hck
      clear hse hc
      go_wp2
      · go_ret
        exact ⟨⟨_, rfl⟩, rfl⟩
      · go_ret
        exact ⟨⟨_, rfl⟩, rfl⟩
      · go_round
        case rel => exact ⟨k + 1, _, by omega, by omega, by omega, by go_num, rfl⟩
        case measure => simp [intOf]; omega
    · go_wp2
      go_ret
      exact ⟨⟨_, rfl⟩, rfl⟩

theorem ret_int {k : IntKind} {a b : Int} (h : a = b) : Ending.returned (.int k a) = .returned (.int k b) := by rw [h]

set_option maxHeartbeats 400000 in
/-- digits. -/
theorem digits_any (n : Nat) (w : World) (hn : n ≤ 9223372036854775807) :
    Calls Tryd.prog 18 #[.int .i64 n] w fun e w' => e = .returned (.int .i64 (Lib.nDigits n)) ∧ w' = w := by
  have h20 := Lib.nDigits_le20 n (by omega)
  go_enter Tryd.func18, Tryd.ntmps18
  go_wp2
  go_loop [0, 3] (fun x d => ∃ (m c : Nat), m ≤ n ∧ c + 1 ≤ 20 ∧ x = .int .i64 m ∧ d = .int .i64 ((c : Int) + 1) ∧ c + Lib.nDigits m = Lib.nDigits n) (fun x _ => (intOf x).toNat)
  case atStart => exact ⟨n, 0, Nat.le_refl _, by omega, rfl, rfl, by omega⟩
  case round =>
    obtain ⟨m, c, hm, hc, rfl, rfl, he⟩ := hrel
    have HE : Hid (c + Lib.nDigits m = Lib.nDigits n) := he
    clear he
    by_cases hlt : m < 10
    · have hd := Lib.nDigits_small hlt
      have HD : Hid (Lib.nDigits m = 1) := hd
      clear hd
      go_wp2
      go_ret
      exact ⟨ret_int (by have := HE.out; have := HD.out; omega), rfl⟩
    · have hd := Lib.nDigits_big hlt
      have hp := Lib.nDigits_pos (m / 10)
      have HD : Hid (Lib.nDigits m = Lib.nDigits (m / 10) + 1) := hd
      have HP : Hid (1 ≤ Lib.nDigits (m / 10)) := hp
      clear hd hp
      go_wp2
      go_round
      case rel => exact ⟨m / 10, c + 1, by omega, by have := HE.out; have := HD.out; have := HP.out; omega, by go_num, by go_num, by have := HE.out; have := HD.out; omega⟩
      case measure => simp [intOf]; omega

set_option maxHeartbeats 400000 in
theorem zzdigits_any (n : Nat) (w : World) (hn : n ≤ 9223372036854775807) :
    Calls Tryd.prog 12 #[.int .i64 n] w fun e w' => e = .returned (.int .i64 (Lib.nDigits n)) ∧ w' = w := by
  go_enter Tryd.func12, Tryd.ntmps12
  go_wp2_with (go_at_call 18; refine (digits_any _ _ hn).mono ?_; rintro e w' ⟨rfl, rfl⟩)
  go_ret
  exact ⟨rfl, rfl⟩
end Go.Proofs.Qxb6001176aDoor
