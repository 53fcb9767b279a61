/-
  zzB1SortedCopy: the walk.
-/
import Derived.Test.Qxb6000910aLess
namespace Go.Proofs.Qxb6000910a
open Go.RowKit

/-- Every string of the list is one that Go can have. -/
def Small (ss : List ByteArray) : Prop := ∀ s ∈ ss, s.size ≤ maxLen

theorem small_at {cs : List ByteArray} (h : Small cs) (i : Nat) : (cs.getD i ByteArray.empty).size ≤ maxLen := by
  by_cases hi : i < cs.length
  · have : cs.getD i ByteArray.empty = cs[i] := by simp [List.getD, hi]
    rw [this]
    exact h _ (List.getElem_mem hi)
  · simp [List.getD, hi, maxLen]

theorem small_perm {rr ss : List ByteArray} (hp : rr.Perm ss) (h : Small ss) : Small rr := fun s hs => h s ((hp.mem_iff).1 hs)

theorem own_get {wr : World} {len : Nat} {cs : List ByteArray} {B g cap : Nat} (ho : wr.ownsRow B 9 1 (.slice (some ⟨g, 0, none⟩) len cap) len (cs.map Value.string)) (j : Nat) (h : j < len) :
    wr.cell? ⟨g, j, none⟩ = some (.string (cs.getD j ByteArray.empty)) := by
  have hl := ho.1
  simp at hl
  rw [ho.cellAt j (by omega)]
  simp [List.getD, show j < cs.length by omega]

/-- The row that a copy has filled. -/
theorem filled {xs : List Value} {ss : List ByteArray} {len : Nat} (hl : xs.length = len * 1) (hs : ss.length = len) (h : ∀ j, j < len → xs[j]? = some (.string (ss.getD j ByteArray.empty))) : xs = ss.map Value.string := by
  apply List.ext_getElem?
  intro j
  by_cases hj : j < len
  · rw [h j hj]
    simp [List.getD, show j < ss.length by omega]
  · rw [List.getElem?_eq_none (by omega), List.getElem?_eq_none (by simp; omega)]

/-- One exchange in the row. -/
theorem swapped {w wr : World} {len : Nat} {cs : List ByteArray} {B g cap j : Nat} (hB : B ≤ g)
    (ho : wr.ownsRow B 9 1 (.slice (some ⟨g, 0, none⟩) len cap) len (cs.map Value.string)) (hb : Below B w wr) :
    ((wr.setCell ⟨g, j, none⟩ (.string (cs.getD (j - 1) ByteArray.empty))).setCell ⟨g, j - 1, none⟩ (.string (cs.getD j ByteArray.empty))).ownsRow B 9 1 (.slice (some ⟨g, 0, none⟩) len cap) len ((swp cs j).map Value.string) ∧
    Below B w ((wr.setCell ⟨g, j, none⟩ (.string (cs.getD (j - 1) ByteArray.empty))).setCell ⟨g, j - 1, none⟩ (.string (cs.getD j ByteArray.empty))) := by
  obtain ⟨o1, b1⟩ := own_store hB (cs.getD (j - 1) ByteArray.empty) j ho hb
  obtain ⟨o2, b2⟩ := own_store hB (cs.getD j ByteArray.empty) (j - 1) o1 b1
  refine ⟨?_, b2⟩
  have e : (swp cs j).map Value.string = (((cs.map Value.string).set j (.string (cs.getD (j - 1) ByteArray.empty))).set (j - 1) (.string (cs.getD j ByteArray.empty))) := by
    simp only [swp, List.map_set]
  rw [e]
  exact o2

theorem own_drewN {wr : World} {len : Nat} {xs : List Value} {B g cap : Nat} (ho : wr.ownsRow B 9 1 (.slice (some ⟨g, 0, none⟩) len cap) len xs) (n : Nat) : (wr.drewN n).ownsRow B 9 1 (.slice (some ⟨g, 0, none⟩) len cap) len xs := ho

theorem below_drewn {B : Nat} {w wr : World} (hb : Below B w wr) (n : Nat) : Below B w (wr.drewN n) := ⟨hb.os, hb.tape, hb.output, hb.size, hb.block⟩

/-- The round that exchanges. -/
theorem rel_swap {w wr : World} {len l m : Nat} {ds ss : List ByteArray} {s t : ByteArray} (nq : Nat) (hs : s = ds.getD m ByteArray.empty) (ht : t = ds.getD (m - 1) ByteArray.empty)
    (hod : wr.ownsRow w.heap.size 9 1 (.slice (some ⟨w.heap.size, 0, none⟩) len len) len (ds.map Value.string)) (hbd : Below w.heap.size w wr) (hpd : ds.Perm ss) (hid : Ins ds l m)
    (hm : 0 < m) (hml : m ≤ l) (hll : l < ds.length) (hl : lessL s.toList t.toList = true) :
    ((((wr.drewN nq).setCell ⟨w.heap.size, m, none⟩ (.string t)).setCell ⟨w.heap.size, m - 1, none⟩ (.string s)).ownsRow w.heap.size 9 1 (.slice (some ⟨w.heap.size, 0, none⟩) len len) len ((swp ds m).map Value.string) ∧
    Below w.heap.size w (((wr.drewN nq).setCell ⟨w.heap.size, m, none⟩ (.string t)).setCell ⟨w.heap.size, m - 1, none⟩ (.string s)) ∧ (swp ds m).Perm ss ∧ Ins (swp ds m) l (m - 1)) := by
  subst hs ht
  obtain ⟨h1, h2⟩ := swapped (Nat.le_refl _) (own_drewN hod nq) (below_drewn hbd nq) (j := m)
  refine ⟨h1, h2, ?_, ins_step hid hm hml hll hl⟩
  obtain ⟨m', rfl⟩ : ∃ m', m = m' + 1 := ⟨m - 1, by omega⟩
  exact (swp_perm m' ds (by omega)).trans hpd

set_option maxHeartbeats 1000000 in
theorem sortcopy_any (a : Option Addr) (len cap : Nat) (ss : List ByteArray) (w : World) (hs : Strs w a len ss) (hsm : len ≤ 65536) (hsz : Small ss) :
    Calls Try.prog 24 #[.slice a len cap] w fun e w' => ∃ a' cap' rr, e = .returned (.slice a' len cap') ∧ Strs w' a' len rr ∧ rr.Perm ss ∧ SortedTo rr len ∧ Below w.heap.size w w' := by
  have hs0 := hs
  obtain ⟨hlen, hmax, hs⟩ := hs
  have hmax0 := hmax
  unfold maxLen at hmax
  obtain ⟨i0, hi, hz0, hz1, hz2⟩ := info_parts Try.info9
  go_enter Try.func24, Try.ntmps24
  go_wp2_with (at_make; refine wpList_make_full _ rfl _ _ 22 rfl w.heap.size 9 i0 (.string ByteArray.empty) 1 Try.underlying22 hi hz0 hz1 .i64 .i64 _ _ len rfl rfl rfl rfl (by rw [hz2]; omega) (by unfold maxLen; omega) (Nat.le_refl _) ?_; intro w1 hown hgrow)
  go_loopw [4] (fun i wr => ∃ (k : Nat) (xs : List Value), k ≤ len ∧ i = .int .i64 k ∧ wr.ownsRow w.heap.size 9 1 (.slice (some ⟨w.heap.size, 0, none⟩) len len) len xs ∧
      Below w.heap.size w wr ∧ ∀ j, j < k → xs[j]? = some (.string (ss.getD j ByteArray.empty))) (fun i _ => len - (intOf i).toNat)
  case atStart => exact ⟨0, _, Nat.zero_le _, rfl, hown, (Below.refl _ _).grown hgrow (Nat.le_refl _) (fun k h => by cases h), fun j h => by omega⟩
  case round =>
    obtain ⟨k, xs, hk, rfl, ho, hb, hx⟩ := hrel
    have HX : Hid (∀ j, j < k → xs[j]? = some (.string (ss.getD j ByteArray.empty))) := hx
    clear hx
    by_cases hlt : k < len
    · rcases hs with h0 | ⟨b, off, had, hc⟩
      · omega
      subst had
      have hck := hc k hlt
      have hbl : b < w.heap.size := block_lt_of_cell hck
      rw [← hb.cell (p := ⟨b, off + k, none⟩) hbl] at hck
      obtain ⟨s, hse⟩ : ∃ s, s = ss.getD k ByteArray.empty := ⟨_, rfl⟩
      rw [← hse] at hck
      have HS : Hid (s = ss.getD k ByteArray.empty) := hse
      obtain ⟨⟨v, _, hv⟩, hf⟩ := own_cell ho k hlt
      obtain ⟨ho', hb'⟩ := own_store (Nat.le_refl _) s k ho hb
      clear hse hc hs0
      go_wp2
      go_roundw
      case rel =>
        refine ⟨k + 1, _, by omega, by go_num, ho', hb', fun j hj => ?_⟩
        have hxl := ho.1
        by_cases hjk : j = k
        · subst hjk
          rw [← HS.out, List.getElem?_set_self (by omega)]
        · rw [List.getElem?_set_ne (by omega)]
          exact HX.out j (by omega)
      case measure => simp [intOf]; omega
    · have hkl : k = len := by omega
      have HXS : xs = ss.map Value.string := filled ho.1 hlen (fun j hj => HX.out j (by omega))
      subst HXS
      clear HX hown hgrow hs hs0
      go_wp2
      go_loopw [5, 6, 7] (fun i _ _ wr => ∃ (l : Nat) (cs : List ByteArray), 1 ≤ l ∧ (l ≤ len ∨ l = 1) ∧ i = .int .i64 l ∧ wr.ownsRow w.heap.size 9 1 (.slice (some ⟨w.heap.size, 0, none⟩) len len) len (cs.map Value.string) ∧
          Below w.heap.size w wr ∧ cs.Perm ss ∧ SortedTo cs l) (fun i _ _ _ => len - (intOf i).toNat)
      case atStart => exact ⟨1, ss, Nat.le_refl _, Or.inr rfl, rfl, ho, hb, List.Perm.refl _, fun p q h1 h2 => by omega⟩
      case round =>
        obtain ⟨l, cs, hl1, hl2, rfl, hoc, hbc, hpc, hsc⟩ := hrel
        clear ho hb
        by_cases hll : l < len
        · go_wp2
          go_loopw [6, 7] (fun j _ wr => ∃ (m : Nat) (ds : List ByteArray), m ≤ l ∧ j = .int .i64 m ∧ wr.ownsRow w.heap.size 9 1 (.slice (some ⟨w.heap.size, 0, none⟩) len len) len (ds.map Value.string) ∧
            Below w.heap.size w wr ∧ ds.Perm ss ∧ Ins ds l m) (fun j _ _ => (intOf j).toNat)
          case atStart => exact ⟨l, cs, Nat.le_refl _, rfl, hoc, hbc, hpc, ins_start hsc⟩
          case round =>
            obtain ⟨m, ds, hml, rfl, hod, hbd, hpd, hid⟩ := hrel
            clear hoc hbc hsc
            have hld : ds.length = len := by rw [hpd.length_eq, hlen]
            by_cases hm : 0 < m
            · have hcs := own_get hod m (by omega)
              have hct := own_get hod (m - 1) (by omega)
              have hf1 := hod.frozenAt m
              have hf2 := hod.frozenAt (m - 1)
              have hzs := small_at (small_perm hpd hsz) m
              have hzt := small_at (small_perm hpd hsz) (m - 1)
              obtain ⟨s, hse⟩ : ∃ s, s = ds.getD m ByteArray.empty := ⟨_, rfl⟩
              obtain ⟨t, hte⟩ : ∃ t, t = ds.getD (m - 1) ByteArray.empty := ⟨_, rfl⟩
              rw [← hse] at hcs hzs
              rw [← hte] at hct hzt
              have HS : Hid (s = ds.getD m ByteArray.empty) := hse
              have HT : Hid (t = ds.getD (m - 1) ByteArray.empty) := hte
              clear hse hte
              have g0 : (0 : Int) < (m : Int) := by omega
              have g1 : (m : Int) < (len : Int) := by omega
              go_wp2
              go_quiet ((go_at_call 30; exact Calls.quiet_of (less_any _ _ _ hzs hzt)))
              go_wp2
              · have hls : lessL s.toList t.toList = true := by assumption
                have R := rel_swap nq HS.out HT.out hod hbd hpd hid hm hml (by omega) hls
                go_roundw
                case rel => exact ⟨m - 1, swp ds m, by omega, by congr 1; omega, R.1, R.2.1, R.2.2.1, R.2.2.2⟩
                case measure => simp [intOf]; omega
              · have hls : lessL s.toList t.toList = false := by assumption
                go_roundw
                case rel => exact ⟨l + 1, ds, by omega, Or.inl (by omega), by go_num, own_drewN hod nq, below_drewn hbd nq, hpd, ins_stop hid (Or.inr (by unfold key; rw [← HS.out, ← HT.out]; exact hls))⟩
                case measure => simp [intOf]; omega
            · have hd : decide ((0 : Int) < (m : Int)) = false := decide_eq_false (by omega)
              go_wp2
              go_quiet (fail)
              go_wp2
              go_roundw
              case rel => exact ⟨l + 1, ds, by omega, Or.inl (by omega), by go_num, own_drewN hod nq, below_drewn hbd nq, hpd, ins_stop hid (Or.inl (by omega))⟩
              case measure => simp [intOf]; omega
        · have hlc : cs.length = len := by rw [hpc.length_eq, hlen]
          go_wp2
          go_ret
          exact ⟨_, _, cs, rfl, own_strs hoc hlc hmax0 (fun j hj => by simp [List.getD, show j < cs.length by omega]), hpc, fun p q h1 h2 => hsc p q h1 (by omega), hbc⟩
end Go.Proofs.Qxb6000910a
