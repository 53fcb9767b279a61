/-
  ZZNewPath: the walk.
-/
import Derived.Test.Qxb6001176aDoorBase
import Derived.RegionTactic
namespace Go.Proofs.Qxb6001176aDoor
open Go.RowKit

theorem Tryd.info35 : (Tryd.prog.info? 35).map (fun i => (i.zero, i.size, i.bytes)) = some (some (.agg #[.string ByteArray.empty, .int .i64 0]), 2, 24) := by kernel_rfl

/-- The step row, as far as k. -/
def Steps (xs : List Value) (k : Nat) (ss : List ByteArray) (z : Nat → Int) : Prop :=
  ∀ j, j < k → xs[j * 2]? = some (.string (ss.getD j ByteArray.empty)) ∧ xs[j * 2 + 1]? = some (.int .i64 (z j))

theorem steps_step {xs : List Value} {k len : Nat} {ss : List ByteArray} {z : Nat → Int} {s : ByteArray} (hl : xs.length = len * 2) (hk : k < len) (hs : s = ss.getD k ByteArray.empty) (hx : Steps xs k ss z) :
    Steps ((xs.set (k * 2) (.string s)).set (k * 2 + 1) (.int .i64 (z k))) (k + 1) ss z := by
  subst hs
  intro j hj
  by_cases e : j = k
  · subst e
    refine ⟨?_, ?_⟩
    · rw [List.getElem?_set_ne (by omega), List.getElem?_set_self (by omega)]
    · rw [List.getElem?_set_self (by simp; omega)]
  · obtain ⟨h1, h2⟩ := hx j (by omega)
    refine ⟨?_, ?_⟩
    · rw [List.getElem?_set_ne (by omega), List.getElem?_set_ne (by omega)]; exact h1
    · rw [List.getElem?_set_ne (by omega), List.getElem?_set_ne (by omega)]; exact h2

/-- The round that stores one step. -/
theorem rel_step {w wr : World} {len k : Nat} {xs : List Value} {ss : List ByteArray} {z : Nat → Int} {s : ByteArray} (ho : wr.ownsRow w.heap.size 35 2 (.slice (some ⟨w.heap.size, 0, none⟩) len len) len xs) (hb : Below w.heap.size w wr)
    (hk : k < len) (hs : s = ss.getD k ByteArray.empty) (hx : Steps xs k ss z) :
    ((wr.setCell ⟨w.heap.size, k * 2, none⟩ (.string s)).setCell ⟨w.heap.size, k * 2 + 1, none⟩ (.int .i64 (z k))).ownsRow w.heap.size 35 2 (.slice (some ⟨w.heap.size, 0, none⟩) len len) len ((xs.set (k * 2) (.string s)).set (k * 2 + 1) (.int .i64 (z k))) ∧
    Below w.heap.size w ((wr.setCell ⟨w.heap.size, k * 2, none⟩ (.string s)).setCell ⟨w.heap.size, k * 2 + 1, none⟩ (.int .i64 (z k))) ∧ Steps ((xs.set (k * 2) (.string s)).set (k * 2 + 1) (.int .i64 (z k))) (k + 1) ss z := by
  obtain ⟨o1, b1⟩ := ownv_store (Nat.le_refl _) (.string s) (k * 2) ho hb
  obtain ⟨o2, b2⟩ := ownv_store (Nat.le_refl _) (.int .i64 (z k)) (k * 2 + 1) o1 b1
  exact ⟨o2, b2, steps_step ho.1 hk hs hx⟩

/-- What lies behind the pointer that comes back. -/
theorem path_end {w wr : World} {len : Nat} {xs : List Value} {ss : List ByteArray} {z : Nat → Int} (ho : wr.ownsRow w.heap.size 35 2 (.slice (some ⟨w.heap.size, 0, none⟩) len len) len xs) (hb : Below w.heap.size w wr) (hx : Steps xs len ss z)
    (hlt : w.heap.size < wr.heap.size) (o : Array Value) :
    (∀ j, j < len → (wr.alloc (.cells o 37)).cell? ⟨w.heap.size, j * 2, none⟩ = some (.string (ss.getD j ByteArray.empty)) ∧ (wr.alloc (.cells o 37)).cell? ⟨w.heap.size, j * 2 + 1, none⟩ = some (.int .i64 (z j))) ∧ Below w.heap.size w (wr.alloc (.cells o 37)) := by
  refine ⟨fun j hj => ?_, hb.alloc hb.size _⟩
  obtain ⟨h1, h2⟩ := hx j hj
  rw [World.cell?_alloc_lt wr _ ⟨w.heap.size, j * 2, none⟩ hlt, World.cell?_alloc_lt wr _ ⟨w.heap.size, j * 2 + 1, none⟩ hlt, ho.cellAt _ (by omega), ho.cellAt _ (by omega)]
  exact ⟨h1, h2⟩

theorem own_lt {wr : World} {B e size g n cap : Nat} {xs : List Value} (ho : wr.ownsRow B e size (.slice (some ⟨g, 0, none⟩) n cap) n xs) : g < wr.heap.size := by
  rcases ho.2 with ⟨h, _⟩ | ⟨g', cap', cur, hv, _, hh, _⟩
  · cases h
  · cases hv
    exact (Array.getElem?_eq_some_iff.1 hh).1

set_option maxHeartbeats 400000 in
theorem newPath_any (a b : Option Addr) (len cap cap' : Nat) (ss : List ByteArray) (z : Nat → Int) (w : World) (hs : Strs w a len ss) (hz : Ints w b len z) (hsm : len ≤ 65536) :
    Calls Tryd.prog 9 #[.slice a len cap, .slice b len cap'] w fun e w' => ∃ pb sb, e = .returned (.pointer (some ⟨pb, 0, none⟩)) ∧ w'.cell? ⟨pb, 0, none⟩ = some (.slice (some ⟨sb, 0, none⟩) len len) ∧ w'.cell? ⟨pb, 1, none⟩ = some (.int .i64 0) ∧
      (∀ j, j < len → w'.cell? ⟨sb, j * 2, none⟩ = some (.string (ss.getD j ByteArray.empty)) ∧ w'.cell? ⟨sb, j * 2 + 1, none⟩ = some (.int .i64 (z j))) ∧ Below w.heap.size w w' := by
  obtain ⟨hlen, hmax, hs⟩ := hs
  obtain ⟨_, hz⟩ := hz
  unfold maxLen at hmax
  obtain ⟨i0, hi, hz0, hz1, hz2⟩ := info_parts Tryd.info35
  go_enter Tryd.func9, Tryd.ntmps9
  go_wp2_with (at_make; refine wpList_make_full _ rfl _ _ 33 rfl w.heap.size 35 i0 (.agg #[.string ByteArray.empty, .int .i64 0]) 2 Tryd.underlying33 hi hz0 hz1 .i64 .i64 _ _ len rfl rfl rfl rfl (by rw [hz2]; omega) (by unfold maxLen; omega) (Nat.le_refl _) ?_; intro w1 hown hgrow)
  go_loopw [6, 12] (fun _ i wr => ∃ (k : Nat) (xs : List Value), k ≤ len ∧ i = .int .i64 k ∧ wr.ownsRow w.heap.size 35 2 (.slice (some ⟨w.heap.size, 0, none⟩) len len) len xs ∧
      Below w.heap.size w wr ∧ Steps xs k ss z) (fun _ i _ => len - (intOf i).toNat)
  case atStart => exact ⟨0, _, Nat.zero_le _, rfl, hown, (Below.refl _ _).grown hgrow (Nat.le_refl _) (fun k h => by cases h), fun j h => by omega⟩
  case round =>
    obtain ⟨k, xs, hk, rfl, ho, hb, hx⟩ := hrel
    have HX : Hid (Steps xs k ss z) := hx
    clear hx
    by_cases hlt : k < len
    · rcases hs with h0 | ⟨b1, o1, rfl, hc⟩
      · omega
      rcases hz with h0 | ⟨b2, o2, rfl, hd⟩
      · omega
      have hck := hc k hlt
      have hbl : b1 < w.heap.size := block_lt_of_cell hck
      rw [← hb.cell (p := ⟨b1, o1 + k, none⟩) hbl] at hck
      obtain ⟨hdk, _⟩ := hd k hlt
      have hbl2 : b2 < w.heap.size := block_lt_of_cell hdk
      rw [← hb.cell (p := ⟨b2, o2 + k, none⟩) hbl2] at hdk
      obtain ⟨s, hse⟩ : ∃ s, s = ss.getD k ByteArray.empty := ⟨_, rfl⟩
      rw [← hse] at hck
      have HS : Hid (s = ss.getD k ByteArray.empty) := hse
      obtain ⟨⟨v, _, hv⟩, hf⟩ := ownv_cell ho (k * 2) (by omega)
      obtain ⟨⟨v', _, hv'⟩, hf'⟩ := ownv_cell ho (k * 2 + 1) (by omega)
      have g1 : (k : Int) < (len : Int) := by omega
      clear hse hc hd
      go_wp2
      go_region
      all_goals go_wp2
      have R := rel_step ho hb hlt HS.out HX.out
      go_roundw
      case rel => exact ⟨k + 1, _, by omega, by go_num, R.1, R.2.1.drew, R.2.2⟩
      case measure => simp [intOf]; omega
    · obtain rfl : k = len := by omega
      have hltw := own_lt ho
      go_wp2
      go_ret
      have E := path_end ho hb HX.out hltw #[.slice (some ⟨w.heap.size, 0, none⟩) k k, .int .i64 0]
      exact ⟨_, _, rfl, by rw [World.cell?_alloc_new]; rfl, by rw [World.cell?_alloc_new]; rfl, E.1, E.2⟩
end Go.Proofs.Qxb6001176aDoor
