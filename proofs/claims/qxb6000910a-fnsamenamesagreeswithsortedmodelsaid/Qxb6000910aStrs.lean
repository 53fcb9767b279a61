/-
  WALKS over the project's functions on []string: the guards on length, the clone, 'holds'.
-/
import Derived.Test.Qxb6000910aRows
import Derived.WalkKit
import Derived.WalkSpells
import Derived.WalkLawsBesides
namespace Go.Proofs.Qxb6000910a
open Go.RowKit

/-- The slice value 'a, len' leads to the strings ss in w. -/
def Strs (w : World) (a : Option Addr) (len : Nat) (ss : List ByteArray) : Prop :=
  ss.length = len ∧ len ≤ maxLen ∧ (len = 0 ∨ ∃ b off, a = some ⟨b, off, none⟩ ∧ ∀ i, i < len → w.cell? ⟨b, off + i, none⟩ = some (.string (ss.getD i ByteArray.empty)))

/-- The strings of ss that stand before place k do not hold x; in words of the walk. -/
def hasS (ss : List ByteArray) (x : ByteArray) : Bool := ss.any fun s => s.toList == x.toList

theorem hasS_snoc (ss : List ByteArray) (x : ByteArray) (k : Nat) (h : k < ss.length) :
    hasS (ss.take (k + 1)) x = (hasS (ss.take k) x || ((ss.getD k ByteArray.empty).toList == x.toList)) := by
  unfold hasS
  rw [List.take_succ_eq_append_getElem h, List.any_append]
  simp [List.getD, h]

theorem hasS_hit (ss : List ByteArray) (x : ByteArray) (k : Nat) (h : k < ss.length) (hx : ((ss.getD k ByteArray.empty).toList == x.toList) = true) : hasS ss x = true := by
  unfold hasS
  rw [List.any_eq_true]
  refine ⟨ss[k], List.getElem_mem h, ?_⟩
  simpa [List.getD, h] using hx

/-- The call answers some bool. -/
def RetBool (e : Ending) : Prop := ∃ b : Bool, e = .returned (.bool b)

theorem ret_bool {a b : Bool} (h : a = b) : Ending.returned (.bool a) = .returned (.bool b) := by rw [h]

set_option maxHeartbeats 400000 in
/-- terms.holds: is x among ss? It only reads. -/
theorem holds_any (a : Option Addr) (len cap : Nat) (ss : List ByteArray) (x : ByteArray) (w : World) (hs : Strs w a len ss) :
    Calls Try.prog 28 #[.slice a len cap, .string x] w fun e w' => e = .returned (.bool (hasS ss x)) ∧ w' = w := by
  obtain ⟨hlen, hmax, hs⟩ := hs
  unfold maxLen at hmax
  go_enter Try.func28, Try.ntmps28
  go_wp2
  go_loop [9] (fun i => ∃ k : Nat, k ≤ len ∧ i = .int .i64 k ∧ hasS (ss.take k) x = false) (fun i => len - (intOf i).toNat)
  case atStart => exact ⟨0, Nat.zero_le _, rfl, rfl⟩
  case round =>
    obtain ⟨k, hk, rfl, hno⟩ := hrel
    have HN : Hid (hasS (ss.take k) x = false) := hno
    clear hno
    by_cases hlt : k < len
    · rcases hs with h0 | ⟨b, off, rfl, hc⟩
      · omega
      have hck := hc k hlt
      obtain ⟨s, hse⟩ : ∃ s, s = ss.getD k ByteArray.empty := ⟨_, rfl⟩
      rw [← hse] at hck
      have HS : Hid (s = ss.getD k ByteArray.empty) := hse
      clear hse hc
      go_wp2
      · go_ret
        exact ⟨ret_bool (hasS_hit ss x k (by omega) (by rw [← HS.out]; assumption)).symm, rfl⟩
      · go_round
        case rel => exact ⟨k + 1, by omega, by go_num, by rw [hasS_snoc ss x k (by omega), HN.out, ← HS.out, Bool.false_or]; assumption⟩
        case measure => simp [intOf]; omega
    · go_wp2
      go_ret
      exact ⟨ret_bool (by rw [← HN.out, List.take_of_length_le (by omega)]), rfl⟩

set_option maxHeartbeats 400000 in
/-- The shim. -/
theorem zzholds_any (a : Option Addr) (len cap : Nat) (ss : List ByteArray) (x : ByteArray) (w : World) (hs : Strs w a len ss) :
    Calls Try.prog 14 #[.slice a len cap, .string x] w fun e w' => e = .returned (.bool (hasS ss x)) ∧ w' = w := by
  go_enter Try.func14, Try.ntmps14
  go_wp2_with (go_at_call 28; refine (holds_any _ _ _ ss _ _ hs).mono ?_; rintro e w' ⟨rfl, rfl⟩)
  go_ret
  exact ⟨rfl, rfl⟩

set_option maxHeartbeats 400000 in
/-- zzB1Bytes answers some number; it only reads. -/
theorem bytes_any (a : Option Addr) (len cap : Nat) (ss : List ByteArray) (w : World) (hs : Strs w a len ss) :
    Calls Try.prog 12 #[.slice a len cap] w fun e w' => (∃ n : Int, e = .returned (.int .i64 n)) ∧ w' = w := by
  obtain ⟨hlen, hmax, hs⟩ := hs
  unfold maxLen at hmax
  go_enter Try.func12, Try.ntmps12
  go_wp2
  go_loop [3, 4] (fun n i => ∃ (k : Nat) (z : Int), k ≤ len ∧ i = .int .i64 k ∧ n = .int .i64 z) (fun _ i => len - (intOf i).toNat)
  case atStart => exact ⟨0, 0, Nat.zero_le _, rfl, rfl⟩
  case round =>
    obtain ⟨k, z, hk, rfl, rfl⟩ := hrel
    by_cases hlt : k < len
    · rcases hs with h0 | ⟨b, off, rfl, hc⟩
      · omega
      have hck := hc k hlt
      obtain ⟨s, hse⟩ : ∃ s, s = ss.getD k ByteArray.empty := ⟨_, rfl⟩
      rw [← hse] at hck
      clear hse hc
      go_wp2
      · go_ret
        exact ⟨⟨_, rfl⟩, rfl⟩
      · go_ret
        exact ⟨⟨_, rfl⟩, rfl⟩
      · go_round
        case rel => exact ⟨k + 1, _, by omega, by go_num, rfl⟩
        case measure => simp [intOf]; omega
    · go_wp2
      go_ret
      exact ⟨⟨_, rfl⟩, rfl⟩

set_option maxHeartbeats 400000 in
/-- The guard on length of the first law: some bool. -/
theorem guard11_any (a : Option Addr) (len cap : Nat) (ss : List ByteArray) (i : Int) (w : World) (hs : Strs w a len ss) :
    Calls Try.prog 11 #[.slice a len cap, .int .i64 i] w fun e w' => RetBool e ∧ w' = w := by
  obtain ⟨hlen, hmax, hs⟩ := hs
  unfold maxLen at hmax
  go_enter Try.func11, Try.ntmps11
  go_wp2
  · go_ret
    exact ⟨⟨_, rfl⟩, rfl⟩
  go_loop [5, 6] (fun n i => ∃ (k : Nat) (z : Int), k ≤ len ∧ i = .int .i64 k ∧ n = .int .i64 z) (fun _ i => len - (intOf i).toNat)
  case atStart => exact ⟨0, _, Nat.zero_le _, rfl, rfl⟩
  case round =>
    obtain ⟨k, z, hk, rfl, rfl⟩ := hrel
    by_cases hlt : k < len
    · rcases hs with h0 | ⟨b, off, rfl, hc⟩
      · omega
      have hck := hc k hlt
      obtain ⟨s, hse⟩ : ∃ s, s = ss.getD k ByteArray.empty := ⟨_, rfl⟩
      rw [← hse] at hck
      clear hse hc
      go_wp2
      · go_ret
        exact ⟨⟨_, rfl⟩, rfl⟩
      · go_ret
        exact ⟨⟨_, rfl⟩, rfl⟩
      · go_round
        case rel => exact ⟨k + 1, _, by omega, by go_num, rfl⟩
        case measure => simp [intOf]; omega
    · go_wp2
      go_ret
      exact ⟨⟨_, rfl⟩, rfl⟩

theorem Try.info9 : (Try.prog.info? 9).map (fun i => (i.zero, i.size, i.bytes)) = some (some (.string ByteArray.empty), 1, 16) := by kernel_rfl

/-- One more string stored into a row of the call's own. -/
theorem own_store {w wr : World} {len : Nat} {xs : List Value} {B g cap : Nat} (hB : B ≤ g) (u : ByteArray) (j : Nat)
    (ho : wr.ownsRow B 9 1 (.slice (some ⟨g, 0, none⟩) len cap) len xs) (hb : Below B w wr) :
    (wr.setCell ⟨g, j, none⟩ (.string u)).ownsRow B 9 1 (.slice (some ⟨g, 0, none⟩) len cap) len (xs.set j (.string u)) ∧ Below B w (wr.setCell ⟨g, j, none⟩ (.string u)) :=
  ⟨(ho.stored j (.string u)).1, hb.setCell hB _⟩

/-- The cells that a store may meet: there is one, and it is not frozen. -/
theorem own_cell {wr : World} {len : Nat} {xs : List Value} {B g cap : Nat} (ho : wr.ownsRow B 9 1 (.slice (some ⟨g, 0, none⟩) len cap) len xs) (j : Nat) (h : j < len) :
    (∃ v, xs[j]? = some v ∧ wr.cell? ⟨g, j, none⟩ = some v) ∧ wr.frozen? ⟨g, j, none⟩ = false := by
  have hl := ho.1
  refine ⟨?_, ho.frozenAt j⟩
  obtain ⟨v, hv⟩ : ∃ v, xs[j]? = some v := ⟨xs[j]'(by omega), List.getElem?_eq_getElem _⟩
  exact ⟨v, hv, by rw [ho.cellAt j (by omega), hv]⟩

/-- A row of the call's own that bears the strings ss. -/
theorem own_strs {wr : World} {len : Nat} {xs : List Value} {B g cap : Nat} {ss : List ByteArray} (ho : wr.ownsRow B 9 1 (.slice (some ⟨g, 0, none⟩) len cap) len xs)
    (hlen : ss.length = len) (hm : len ≤ maxLen) (h : ∀ j, j < len → xs[j]? = some (.string (ss.getD j ByteArray.empty))) : Strs wr (some ⟨g, 0, none⟩) len ss := by
  refine ⟨hlen, hm, Or.inr ⟨g, 0, rfl, fun i hi => ?_⟩⟩
  rw [Nat.zero_add, ho.cellAt i (by omega), h i hi]

/-- What the strings of an argument are in a later world. -/
theorem Strs.later {w w' : World} {a : Option Addr} {len : Nat} {ss : List ByteArray} (h : Strs w a len ss) (hb : Below w.heap.size w w') : Strs w' a len ss := by
  obtain ⟨h1, h2, h3⟩ := h
  refine ⟨h1, h2, ?_⟩
  rcases h3 with h3 | ⟨b, off, rfl, hc⟩
  · exact Or.inl h3
  · refine Or.inr ⟨b, off, rfl, fun i hi => ?_⟩
    have hl : b < w.heap.size := block_lt_of_cell (hc i hi)
    rw [hb.cell (p := ⟨b, off + i, none⟩) hl]
    exact hc i hi

set_option maxHeartbeats 400000 in
/-- zzB1Clone: nil stays nil; else a new slice over the same strings. -/
theorem clone_any (a : Option Addr) (len cap : Nat) (ss : List ByteArray) (w : World) (hs : Strs w a len ss) (hsm : len ≤ 65536) :
    Calls Try.prog 13 #[.slice a len cap] w fun e w' => ∃ a' cap', e = .returned (.slice a' len cap') ∧ Strs w' a' len ss ∧ a'.isNone = a.isNone ∧ Below w.heap.size w w' := by
  have hs0 := hs
  obtain ⟨hlen, hmax, hs⟩ := hs
  have hmax0 := hmax
  unfold maxLen at hmax
  obtain ⟨i0, hi, hz0, hz1, hz2⟩ := info_parts Try.info9
  have hnil := fun (w : World) (a : Option Addr) (l c : Nat) => Lib.run_eql_slice_nil (P := Try.prog) w 22 9 a l c 0 0 Try.underlying22
  cases a with
  | none =>
    have h0 : len = 0 := by rcases hs with h0 | ⟨b, off, h, _⟩ <;> simp_all
    go_enter Try.func13, Try.ntmps13
    go_wp2
    go_ret
    subst h0
    exact ⟨none, 0, rfl, hs0, rfl, Below.refl _ _⟩
  | some ad =>
    go_enter Try.func13, Try.ntmps13
    go_wp2_with (at_make; refine wpList_make_full _ rfl _ _ 22 rfl w.heap.size 9 i0 (.string ByteArray.empty) 1 Try.underlying22 hi hz0 hz1 .i64 .i64 _ _ len rfl rfl rfl rfl (by rw [hz2]; omega) (by unfold maxLen; omega) (Nat.le_refl _) ?_; intro w1 hown hgrow)
    go_loopw [4] (fun i wr => ∃ (k : Nat) (xs : List Value), k ≤ len ∧ i = .int .i64 k ∧ wr.ownsRow w.heap.size 9 1 (.slice (some ⟨w.heap.size, 0, none⟩) len len) len xs ∧
        Below w.heap.size w wr ∧ ∀ j, j < k → xs[j]? = some (.string (ss.getD j ByteArray.empty))) (fun i _ => len - (intOf i).toNat)
    case atStart => exact ⟨0, _, Nat.zero_le _, rfl, hown, (Below.refl _ _).grown hgrow (Nat.le_refl _) (fun k h => by cases h), fun j h => by omega⟩
    case round =>
      obtain ⟨k, xs, hk, rfl, ho, hb, hx⟩ := hrel
      have HX : Hid (∀ j, j < k → xs[j]? = some (.string (ss.getD j ByteArray.empty))) := hx
      clear hx
      by_cases hlt : k < len
      · rcases hs with h0 | ⟨b, off, had, hc⟩
        · omega
        cases had
        have hck := hc k hlt
        have hbl : b < w.heap.size := block_lt_of_cell hck
        rw [← hb.cell (p := ⟨b, off + k, none⟩) hbl] at hck
        obtain ⟨s, hse⟩ : ∃ s, s = ss.getD k ByteArray.empty := ⟨_, rfl⟩
        rw [← hse] at hck
        have HS : Hid (s = ss.getD k ByteArray.empty) := hse
        obtain ⟨⟨v, _, hv⟩, hf⟩ := own_cell ho k hlt
        obtain ⟨ho', hb'⟩ := own_store (Nat.le_refl _) s k ho hb
        clear hse hc hs0
        go_wp2
        go_roundw
        case rel =>
          refine ⟨k + 1, _, by omega, by go_num, ho', hb', fun j hj => ?_⟩
          have hxl := ho.1
          by_cases hjk : j = k
          · subst hjk
            rw [← HS.out, List.getElem?_set_self (by omega)]
          · rw [List.getElem?_set_ne (by omega)]
            exact HX.out j (by omega)
        case measure => simp [intOf]; omega
      · have hkl : k = len := by omega
        go_wp2
        go_ret
        exact ⟨_, _, rfl, own_strs ho hlen hmax0 (fun j hj => HX.out j (by omega)), rfl, hb⟩
end Go.Proofs.Qxb6000910a
