/-
  (*Path).String: the walk, by the library's contracts.
-/
import Derived.Test.Qxb6001176aDoorNewPath
import Derived.Test.Qxb6001176aDoorShelf
import Derived.WalkSmall
namespace Go.Proofs.Qxb6001176aDoor
open Go.RowKit

/-- How many bytes step j takes in the text. -/
def stepLen (ss : List ByteArray) (z : Nat → Int) (j : Nat) : Nat :=
  if 0 ≤ z j then Lib.nDigits (z j).toNat + 2 else (if 0 < j then 1 else 0) + (ss.getD j ByteArray.empty).size
/-- .. and the first k steps. -/
def tot (ss : List ByteArray) (z : Nat → Int) : Nat → Nat
  | 0 => 0
  | k + 1 => tot ss z k + stepLen ss z k

theorem tot_le (ss : List ByteArray) (z : Nat → Int) (n : Nat) (hz : ∀ j, j < n → z j ≤ 9223372036854775807) (hs : ∀ j, j < n → (ss.getD j ByteArray.empty).size ≤ 1048576) : ∀ k, k ≤ n → tot ss z k ≤ k * 1048600
  | 0, _ => Nat.le_refl _
  | k + 1, hk => by
    have h1 := tot_le ss z n hz hs k (by omega)
    have h2 : stepLen ss z k ≤ 1048600 := by
      unfold stepLen
      have := Lib.nDigits_le20 (z k).toNat (by have := hz k (by omega); omega)
      have := hs k (by omega)
      split
      · omega
      · split <;> omega
    simp only [tot]
    omega

/-- A builder stays one while the heap only grows. -/
theorem builder_grown {B b : Nat} {bs : List Value} {w w' : World} (h : Lib.IsBuilderF 41 5 B b bs w) (hg : w.grownBy w' none) : Lib.IsBuilderF 41 5 B b bs w' := by
  have one : ∀ p, Lib.BuilderAtF 41 5 B b p bs w → Lib.BuilderAtF 41 5 B b p bs w' := by
    intro p h
    have hlt := h.lt
    obtain ⟨hB, v, hb, hown, hne⟩ := h
    exact ⟨hB, v, (hg.block b hlt (by simp)).trans hb, hown.kept hg (by cases hv : v.ownBlock <;> simp), hne⟩
  exact h.elim (fun x => .inl (one _ x)) (fun x => .inr (one _ x))

theorem grown_grow (w : World) (k : Nat) (os : Array Obj) : w.grownBy (Go.Sort.grow (w.drewN k) os) none := by
  refine ⟨rfl, rfl, rfl, by simp [Go.Sort.grow, World.drewN], fun i hi _ => ?_⟩
  simp only [Go.Sort.grow, World.drewN]
  rw [Array.getElem?_append_left hi]

theorem gPow : Tryd.prog.globalNamed "internal/strconv.uint64pow10" = some 1 := by kernel_rfl

theorem app_str (l : List UInt8) (s : ByteArray) : Lib.byteCells l ++ Lib.strCells s = Lib.byteCells (l ++ s.data.toList) := by simp [Lib.byteCells, Lib.strCells]
theorem app_byte (l : List UInt8) (c : UInt8) : Lib.byteCells l ++ [.int .u8 c.toNat] = Lib.byteCells (l ++ [c]) := by simp [Lib.byteCells]
theorem cells_len (l : List UInt8) : (Lib.byteCells l).length = l.length := by simp [Lib.byteCells]

theorem itoa_size (n : Int) (h : 0 ≤ n) : (⟨(Lib.itoa n).toArray⟩ : ByteArray).size = Lib.nDigits n.toNat := by
  obtain ⟨u, rfl⟩ := Int.eq_ofNat_of_zero_le h
  show (Lib.itoa (u : Int)).toArray.size = _
  rw [Lib.itoa_nonneg]
  simp [Lib.decDigits_length]

theorem brk_size (t : ByteArray) : ((⟨#[91]⟩ : ByteArray) ++ t ++ ⟨#[93]⟩).size = t.size + 2 := by
  rw [ByteArray.size_append, ByteArray.size_append]
  show 1 + t.size + 1 = t.size + 2
  omega

theorem data_len (t : ByteArray) : t.data.toList.length = t.size := by simp

theorem builder_lt {B b : Nat} {bs : List Value} {w : World} (h : Lib.IsBuilderF 41 5 B b bs w) : b < w.heap.size := h.elim (fun x => x.lt) (fun x => x.lt)

/-- The table of powers of ten is still there. -/
theorem tab_later {w w' : World} (htab : Lib.TabIs Tryd.prog w "internal/strconv.uint64pow10" .u64 Lib.pow10Tab) (hb : Below w.heap.size w w') : Lib.TabIs Tryd.prog w' "internal/strconv.uint64pow10" .u64 Lib.pow10Tab :=
  var?_below hb gPow (block_lt_of_cell (htab.cell gPow 0 (by decide))) htab

set_option maxHeartbeats 1000000 in
theorem string_any (pb sb n : Nat) (ss : List ByteArray) (z : Nat → Int) (w : World) (hp0 : w.cell? ⟨pb, 0, none⟩ = some (.slice (some ⟨sb, 0, none⟩) n n)) (hp1 : w.cell? ⟨pb, 1, none⟩ = some (.int .i64 0))
    (hst : ∀ j, j < n → w.cell? ⟨sb, j * 2, none⟩ = some (.string (ss.getD j ByteArray.empty)) ∧ w.cell? ⟨sb, j * 2 + 1, none⟩ = some (.int .i64 (z j)))
    (htab : Lib.TabIs Tryd.prog w "internal/strconv.uint64pow10" .u64 Lib.pow10Tab) (hn : n ≤ 65536) (hz : ∀ j, j < n → -9223372036854775808 ≤ z j ∧ z j ≤ 9223372036854775807) (hs : ∀ j, j < n → (ss.getD j ByteArray.empty).size ≤ 1048576) :
    Calls Tryd.prog 10 #[.pointer (some ⟨pb, 0, none⟩)] w fun e w' => ∃ l : List UInt8, e = .returned (.string ⟨l.toArray⟩) ∧ l.length = tot ss z n ∧ Below w.heap.size w w' := by
  have hpl : pb < w.heap.size := block_lt_of_cell hp0
  go_enter Tryd.func10, Tryd.ntmps10
  go_wp2_with fail
  refine (Tryd.Builder_Grow_fresh w.heap.size w.heap.size 0 _ (Nat.le_refl _) (heap_alloc_new w _) (by simp) (by omega)).mono ?_
  rintro e w1 ⟨rfl, hbu, hb1⟩
  have hb : Below w.heap.size w w1 := ((Below.refl _ _).alloc (Nat.le_refl _) _).trans hb1
  have hq0 := (hb.cell (p := ⟨pb, 0, none⟩) hpl).trans hp0
  have HBU : Lib.IsBuilderF 41 5 w.heap.size w.heap.size (Lib.byteCells []) w1 := .inr (Lib.BuilderAtF.of hbu)
  clear hb1 hbu
  go_wp2
  go_loopw [4, 5, 16] (fun _ _ i wr => ∃ (k : Nat) (l : List UInt8), k ≤ n ∧ i = .int .i64 k ∧ Lib.IsBuilderF 41 5 w.heap.size w.heap.size (Lib.byteCells l) wr ∧ l.length = tot ss z k ∧ Below w.heap.size w wr) (fun _ _ i _ => n - (intOf i).toNat)
  case atStart => exact ⟨0, [], Nat.zero_le _, rfl, HBU, rfl, hb⟩
  case round =>
    obtain ⟨k, l, hk, rfl, hbu, hl, hbr⟩ := hrel
    have HL : Hid (l.length = tot ss z k) := hl
    clear hl hb HBU hq0
    by_cases hlt : k < n
    · obtain ⟨hc1, hc2⟩ := hst k hlt
      have hsl : sb < w.heap.size := block_lt_of_cell hc1
      have d1 := (hbr.cell (p := ⟨sb, k * 2, none⟩) hsl).trans hc1
      have d2 := (hbr.cell (p := ⟨sb, k * 2 + 1, none⟩) hsl).trans hc2
      obtain ⟨s, hse⟩ : ∃ s, s = ss.getD k ByteArray.empty := ⟨_, rfl⟩
      rw [← hse] at d1
      have HS : Hid (s = ss.getD k ByteArray.empty) := hse
      have hzk := hz k hlt
      clear hse hc1 hc2
      have HTot := tot_le ss z n (fun j hj => (hz j hj).2) hs k hk
      have HT : Hid (tot ss z k ≤ k * 1048600) := HTot
      clear HTot
      by_cases hpos : 0 ≤ z k
      · go_wp2_with fail
        refine (Tryd.strconv_Itoa (z k) hzk.1 hzk.2 _ (tab_later htab (hbr.alloc hbr.size _))).mono ?_
        rintro e w2 ⟨rfl, m, os, hw⟩
        have hg2 : (wr.alloc (.cells #[.string s, .int .i64 (z k)] 35)).grownBy w2 none := by rw [hw]; exact grown_grow _ _ _
        have hbu2 := builder_grown (builder_grown hbu (World.grownBy_alloc wr (.cells #[.string s, .int .i64 (z k)] 35) none)) hg2
        have hb2 : Below w.heap.size w w2 := (hbr.alloc hbr.size (.cells #[.string s, .int .i64 (z k)] 35)).grown hg2 (by have := hbr.size; simp; omega) (fun k h => by cases h)
        clear hw hg2
        obtain ⟨t, ht⟩ : ∃ t : ByteArray, t = ⟨(Lib.itoa (z k)).toArray⟩ := ⟨_, rfl⟩
        rw [← ht]
        have hts : t.size = Lib.nDigits (z k).toNat := by rw [ht]; exact itoa_size _ hpos
        have htl : t.size ≤ 21 := by rw [hts]; have := Lib.nDigits_le20 (z k).toNat (by omega); omega
        have HTS : Hid (t.size = Lib.nDigits (z k).toNat) := hts
        clear ht hts
        have hlen : (Lib.byteCells l).length + ((⟨#[91]⟩ : ByteArray) ++ t ++ ⟨#[93]⟩).size ≤ 140737488355328 := by
          rw [cells_len, HL.out, brk_size]; have := HT.out; omega
        go_wp2_with fail
        refine (Tryd.Builder_WriteString_k w.heap.size w.heap.size (Lib.byteCells l) _ w2 hbu2 hlen hb2.size).mono ?_
        rintro e w3 ⟨rfl, hbu3, hb3, _⟩
        rw [app_str] at hbu3
        go_wp2
        go_roundw
        case rel => exact ⟨k + 1, _, by omega, by go_num, .inr hbu3, by rw [List.length_append, HL.out, data_len, brk_size, HTS.out]; simp only [tot, stepLen, if_pos (show 0 ≤ z k by omega)], hb2.trans hb3⟩
        case measure => simp [intOf]; omega
      · have hbu0 := builder_grown hbu (World.grownBy_alloc wr (.cells #[.string s, .int .i64 (z k)] 35) none)
        have hb0 : Below w.heap.size w (wr.alloc (.cells #[.string s, .int .i64 (z k)] 35)) := hbr.alloc hbr.size _
        have hwlt : w.heap.size < wr.heap.size := builder_lt hbu
        have hss : s.size ≤ 1048576 := by rw [HS.out]; exact hs k hlt
        by_cases hk0 : 0 < k
        · have hlen0 : (Lib.byteCells l).length + 1 ≤ 140737488355328 := by rw [cells_len, HL.out]; have := HT.out; omega
          have hlen : (Lib.byteCells (l ++ [46])).length + s.size ≤ 140737488355328 := by rw [cells_len, List.length_append, HL.out]; have := HT.out; simp; omega
          go_wp2_with fail
          refine (Tryd.Builder_WriteByte_k w.heap.size w.heap.size (Lib.byteCells l) 46 _ hbu0 hlen0 hb0.size).mono ?_
          rintro e w2 ⟨rfl, hbu2, hb2, hok⟩
          have hcell := Lib.cell_of_heap (hok wr.heap.size _ (heap_alloc_new wr _) (by simp; omega) (fun c fz h => by cases h)) 0
          have hcell0 : w2.cell? ⟨wr.heap.size, 0, none⟩ = some (.string s) := by rw [hcell]; rfl
          have hbu2' : Lib.BuilderAtF 41 5 w.heap.size w.heap.size (.pointer (some ⟨w.heap.size, 0, none⟩)) (Lib.byteCells (l ++ [46])) w2 := by rw [← app_byte]; exact hbu2
          clear hok hcell hbu2
          have hb2' : Below w.heap.size w w2 := hb0.trans hb2
          go_wp2_with fail
          refine (Tryd.Builder_WriteString_k w.heap.size w.heap.size (Lib.byteCells (l ++ [46])) _ w2 (.inr hbu2') hlen hb2'.size).mono ?_
          rintro e w3 ⟨rfl, hbu3, hb3, _⟩
          rw [app_str] at hbu3
          go_wp2
          go_roundw
          case rel => exact ⟨k + 1, _, by omega, by go_num, .inr hbu3, by rw [List.length_append, List.length_append, HL.out, data_len, HS.out]; simp only [tot, stepLen, if_neg (show ¬ 0 ≤ z k by omega), if_pos (show 0 < k by omega), List.length_cons, List.length_nil]; omega, hb2'.trans hb3⟩
          case measure => simp [intOf]; omega
        · have hlen : (Lib.byteCells l).length + s.size ≤ 140737488355328 := by rw [cells_len, HL.out]; have := HT.out; omega
          go_wp2_with fail
          refine (Tryd.Builder_WriteString_k w.heap.size w.heap.size (Lib.byteCells l) _ _ hbu0 hlen hb0.size).mono ?_
          rintro e w3 ⟨rfl, hbu3, hb3, _⟩
          rw [app_str] at hbu3
          go_wp2
          go_roundw
          case rel => exact ⟨k + 1, _, by omega, by go_num, .inr hbu3, by rw [List.length_append, HL.out, data_len, HS.out]; simp only [tot, stepLen, if_neg (show ¬ 0 ≤ z k by omega), if_neg (show ¬ 0 < k by omega)]; omega, hb0.trans hb3⟩
          case measure => simp [intOf]; omega
    · obtain rfl : k = n := by omega
      go_wp2_with fail
      refine (Tryd.Builder_String_any_k w.heap.size w.heap.size l _ hbu hbr.size).mono ?_
      rintro e w2 ⟨rfl, _, hb2, _⟩
      go_wp2
      go_ret
      exact ⟨l, rfl, HL.out, hbr.trans hb2⟩
end Go.Proofs.Qxb6001176aDoor
