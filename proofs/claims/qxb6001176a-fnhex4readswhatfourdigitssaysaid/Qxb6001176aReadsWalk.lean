/-
  FnHex4ReadsWhatFourDigitsSay: the walk.
-/
import Derived.Test.Qxb6001176aHex
import Derived.Laws.BitsAllLaws
namespace Go.Proofs.Qxb6001176a
open Go.RowKit

/-- The sign of the digit d. -/
def hd (d : Int) (u : Bool) : Int := if d < 10 then 48 + d else if u then 55 + d else 87 + d

theorem hd_hex (d : Int) (u : Bool) (h0 : 0 ≤ d) (h1 : d ≤ 15) : isHexB (hd d u) = true ∧ hexv (hd d u) = d ∧ 0 ≤ hd d u ∧ hd d u ≤ 255 := by
  unfold hd isHexB hexv
  by_cases h : d < 10
  · simp only [if_pos h, decide_eq_true_eq]
    refine ⟨by omega, ?_, by omega, by omega⟩
    rw [if_pos (by omega)]; omega
  · simp only [if_neg h, decide_eq_true_eq]
    cases u
    · simp only [Bool.false_eq_true, if_false]
      refine ⟨by omega, ?_, by omega, by omega⟩
      rw [if_neg (by omega), if_pos (by omega)]; omega
    · simp only [if_true]
      refine ⟨by omega, ?_, by omega, by omega⟩
      rw [if_neg (by omega), if_neg (by omega)]; omega

theorem and15_u16 (x : Int) (h0 : 0 ≤ x) (h1 : x < 65536) : bits .and .u16 x 15 = x % 16 := by
  rw [u16_and x 15 h0 h1 (by omega) (by omega)]
  have : x.toNat &&& 15 = x.toNat % 2 ^ 4 := Nat.and_two_pow_sub_one_eq_mod x.toNat 4
  show ((x.toNat &&& 15 : Nat) : Int) = x % 16
  rw [this]
  omega

theorem ret_u8 {a b : Int} (h : a = b) : Ending.returned (.int .u8 a) = .returned (.int .u8 b) := by rw [h]

set_option maxHeartbeats 400000 in
theorem hexDigitOf_any (d : Int) (u : Bool) (w : World) (h0 : 0 ≤ d) (h1 : d ≤ 15) :
    Calls Try.prog 12 #[.int .u16 d, .bool u] w fun e w' => e = .returned (.int .u8 (hd d u)) ∧ w' = w := by
  by_cases h : d < 10
  · have HD : Hid (hd d u = 48 + d) := by show hd d u = 48 + d; unfold hd; rw [if_pos h]
    go_enter Try.func12, Try.ntmps12
    go_wp2
    go_ret
    exact ⟨ret_u8 (by rw [HD.out]), rfl⟩
  · cases u with
    | false =>
      have HD : Hid (hd d false = 87 + d) := by show hd d false = 87 + d; unfold hd; rw [if_neg h]; simp
      go_enter Try.func12, Try.ntmps12
      go_wp2
      go_ret
      exact ⟨ret_u8 (by rw [HD.out]; omega), rfl⟩
    | true =>
      have HD : Hid (hd d true = 55 + d) := by show hd d true = 55 + d; unfold hd; rw [if_neg h]; simp
      go_enter Try.func12, Try.ntmps12
      go_wp2
      go_ret
      exact ⟨ret_u8 (by rw [HD.out]; omega), rfl⟩

set_option maxHeartbeats 400000 in
theorem guard11_any (v m : Int) (a : Option Addr) (len cap : Nat) (w : World) (hm : len ≤ maxLen) :
    Calls Try.prog 11 #[.int .u16 v, .int .u8 m, .slice a len cap] w fun e w' => (e = .returned (.bool (decide (len ≤ 1048576)))) ∧ w' = w := by
  unfold maxLen at hm
  by_cases h : len ≤ 1048576
  · have HD : Hid (decide (len ≤ 1048576) = true) := decide_eq_true h
    go_enter Try.func11, Try.ntmps11
    go_wp2
    go_ret
    exact ⟨ret_bool HD.out.symm, rfl⟩
  · have HD : Hid (decide (len ≤ 1048576) = false) := decide_eq_false h
    go_enter Try.func11, Try.ntmps11
    go_wp2
    go_ret
    exact ⟨ret_bool HD.out.symm, rfl⟩

set_option maxHeartbeats 400000 in
/-- Too long: the law says true at once. -/
theorem reads_long (v m : Int) (a : Option Addr) (len cap : Nat) (w : World) (hm : len ≤ maxLen) (hl : ¬ len ≤ 1048576) :
    Calls Try.prog 4 #[.int .u16 v, .int .u8 m, .slice a len cap] w fun e w' => e = .returned (.bool true) ∧ Below w.heap.size w w' := by
  have hdec : decide (len ≤ 1048576) = false := decide_eq_false hl
  go_enter Try.func4, Try.ntmps4
  go_wp2_with (go_at_call 11; refine (guard11_any _ _ _ _ _ _ hm).mono ?_; rintro e w' ⟨rfl, rfl⟩)
  go_ret
  exact ⟨rfl, Below.refl _ _⟩

/-- The digits of v, from the first to the last. -/
def nib (v : Int) : Nat → Int
  | 0 => v / 4096 % 16
  | 1 => v / 256 % 16
  | 2 => v / 16 % 16
  | _ => v % 16

theorem nib_bd (v : Int) (k : Nat) : 0 ≤ nib v k ∧ nib v k ≤ 15 := by
  match k with
  | 0 => simp only [nib]; omega
  | 1 => simp only [nib]; omega
  | 2 => simp only [nib]; omega
  | _ + 3 => simp only [nib]; omega

/-- The first k cells bear the first k digits of v, each in one case or the other. -/
def Pre (v : Int) (k : Nat) (xs : List Value) : Prop := ∀ j, j < k → ∃ u, xs[j]? = some (.int .u8 (hd (nib v j) u))

theorem pre_step {v : Int} {k : Nat} {xs : List Value} (hl : xs.length = k * 1) (hp : Pre v k xs) (u : Bool) : Pre v (k + 1) (xs ++ [.int .u8 (hd (nib v k) u)]) := by
  intro j hj
  by_cases e : j = k
  · subst e
    refine ⟨u, ?_⟩
    rw [List.getElem?_append_right (by omega)]
    simp [show j - xs.length = 0 by omega]
  · obtain ⟨u', hu⟩ := hp j (by omega)
    refine ⟨u', ?_⟩
    rw [List.getElem?_append_left (by omega)]
    exact hu

theorem pre_more {v : Int} {n : Nat} {xs : List Value} (hl : xs.length = n * 1) (h4 : 4 ≤ n) (hp : Pre v 4 xs) (x : Value) : Pre v 4 (xs ++ [x]) := by
  intro j hj
  obtain ⟨u', hu⟩ := hp j hj
  refine ⟨u', ?_⟩
  rw [List.getElem?_append_left (by omega)]
  exact hu

theorem one_one (x : Int) : ∀ u ∈ ([.int .u8 x] : List Value), u.oneCell' = true := by
  intro u hu
  simp at hu
  subst hu
  rfl

/-- What hex4 makes of the digits of v. -/
theorem read_back (v : Int) (hv0 : 0 ≤ v) (hv1 : v ≤ 65535) (z : Nat → Int) (h : ∀ j, j < 4 → ∃ u, z j = hd (nib v j) u) : okH z 4 = true ∧ hexR z = v := by
  have key : ∀ j, j < 4 → isHexB (z j) = true ∧ hexv (z j) = nib v j := by
    intro j hj
    obtain ⟨u, e⟩ := h j hj
    have := hd_hex (nib v j) u (nib_bd v j).1 (nib_bd v j).2
    rw [e]
    exact ⟨this.1, this.2.1⟩
  have k0 := key 0 (by omega)
  have k1 := key 1 (by omega)
  have k2 := key 2 (by omega)
  have k3 := key 3 (by omega)
  have ok : okH z 4 = true := by simp [okH, k0.1, k1.1, k2.1, k3.1]
  refine ⟨ok, ?_⟩
  rw [hexR_ok ok]
  simp only [accH, k0.2, k1.2, k2.2, k3.2, nib]
  omega

/-- The first four cells of the row, as numbers. -/
theorem pre_cells {wr : World} {v : Int} {B g n cap : Nat} {ys : List Value} (ho : wr.ownsRow B 5 1 (.slice (some ⟨g, 0, none⟩) n cap) n ys) (h4 : 4 ≤ n) (hp : Pre v 4 ys) :
    ∃ zz : Nat → Int, (∀ i, i < 4 → wr.cell? ⟨g, 0 + i, none⟩ = some (.int .u8 (zz i)) ∧ 0 ≤ zz i ∧ zz i ≤ 255) ∧ ∀ j, j < 4 → ∃ u, zz j = hd (nib v j) u := by
  refine ⟨fun i => intOf (ys.getD i undef), fun i hi => ?_, fun j hj => ?_⟩
  · obtain ⟨u, hu⟩ := hp i hi
    have hb := hd_hex (nib v i) u (nib_bd v i).1 (nib_bd v i).2
    rw [Nat.zero_add, ho.cellAt i (by omega)]
    simp only [List.getD, hu, Option.getD_some, intOf]
    exact ⟨trivial, hb.2.2⟩
  · obtain ⟨u, hu⟩ := hp j hj
    exact ⟨u, by simp only [List.getD, hu, Option.getD_some, intOf]⟩

/-- The end of a round that appends one byte. -/
theorem app_end {w1 wr w3 : World} {o : Obj} {g : Nat} (hB : w1.heap.size ≤ g) (hb : Below w1.heap.size w1 wr) (hg : (wr.alloc o).grownBy w3 (some g)) : Below w1.heap.size w1 w3 :=
  (hb.alloc hb.size o).grown hg (by have := hb.size; simp; omega) (fun k h => by cases h; exact hB)

set_option maxHeartbeats 1000000 in
theorem reads_some (v m : Int) (a : Option Addr) (len cap : Nat) (z : Nat → Int) (w : World) (hv0 : 0 ≤ v) (hv1 : v ≤ 65535) (hs : Row w a len cap z) (hl : len ≤ 1048576) :
    Calls Try.prog 4 #[.int .u16 v, .int .u8 m, .slice a len cap] w fun e w' => e = .returned (.bool true) ∧ Below w.heap.size w w' := by
  have hm : len ≤ maxLen := Nat.le_trans hs.1 hs.2.1
  have hdec : decide (len ≤ 1048576) = true := decide_eq_true hl
  obtain ⟨i0, hi, hz0, hz1, hz2⟩ := info_parts Try.info5
  go_enter Try.func4, Try.ntmps4
  go_wp2_with (first
    | (go_at_call 11; refine (guard11_any _ _ _ _ _ _ hm).mono ?_; rintro e w' ⟨rfl, hw⟩; have hw2 := hw.symm; clear hw; subst hw2)
    | (go_at_call 8; refine (clone_any _ _ _ z _ hs (by omega)).mono ?_; rintro e w1 ⟨a1, rfl, hs1, hb1⟩)
    | (at_make; refine wpList_make_own _ rfl _ _ 22 rfl w1.heap.size 5 i0 (.int .u8 0) 1 Try.underlying22 hi hz0 hz1 _ _ _ (4 + len) rfl rfl (by omega) (by rw [hz2]; omega) (by unfold maxLen; omega) (Nat.le_refl _) ?_; intro w2 hown hgrow))
  have hbw : Below w1.heap.size w1 w2 := (Below.refl _ _).grown hgrow (Nat.le_refl _) (fun k h => by cases h)
  have HB1 : Hid (Below w.heap.size w w1) := hb1
  clear hb1 hgrow hs
  have e0 : bits .and .u16 (v / 4096) 15 = nib v 0 := and15_u16 _ (by omega) (by omega)
  have e1 : bits .and .u16 (v / 256) 15 = nib v 1 := and15_u16 _ (by omega) (by omega)
  have e2 : bits .and .u16 (v / 16) 15 = nib v 2 := and15_u16 _ (by omega) (by omega)
  have e3 : bits .and .u16 v 15 = nib v 3 := and15_u16 _ (by omega) (by omega)
  go_loopw [7, 8, 9, 10, 11] (fun bf i _ _ _ wr => ∃ (k : Nat) (xs : List Value), k ≤ 4 ∧ i = .int .i64 k ∧ bf = .slice (some ⟨w1.heap.size, 0, none⟩) k (4 + len) ∧
      wr.ownsRow w1.heap.size 5 1 (.slice (some ⟨w1.heap.size, 0, none⟩) k (4 + len)) k xs ∧ Pre v k xs ∧ Below w1.heap.size w1 wr) (fun _ i _ _ _ _ => 4 - (intOf i).toNat)
  case atStart => exact ⟨0, [], by omega, rfl, rfl, hown, fun j h => by omega, hbw⟩
  case round =>
    obtain ⟨k, xs, hk, rfl, rfl, ho, hp, hb⟩ := hrel
    clear hown hbw
    by_cases hlt : k < 4
    · rcases (show k = 0 ∨ k = 1 ∨ k = 2 ∨ k = 3 by omega) with rfl | rfl | rfl | rfl
      · have hn := nib_bd v 0
        have HN : Hid (0 ≤ nib v 0 ∧ nib v 0 ≤ 15) := hn
        clear hn
        go_wp2_with (first
          | (go_at_call 12; refine (hexDigitOf_any _ _ _ HN.out.1 HN.out.2).mono ?_; rintro e w' ⟨rfl, hw⟩; have hw2 := hw.symm; clear hw; subst hw2)
          | (at_builtin; refine wpList_append_fits _ rfl _ _ 22 rfl w1.heap.size 5 i0 1 Try.underlying22 hi hz1 w1.heap.size 0 (4 + len) xs rfl (ho.alloc _) ⟨wr.heap.size, 0, none⟩ 1 1 [.int .u8 (hd (nib v 0) _)] rfl rfl (cell_one_new _ _ _) (one_one _) (by omega) ?_; intro w3 ho3 hg3))
        have hb3 := app_end (Nat.le_refl _) hb hg3
        have hp3 := fun u : Bool => pre_step (v := v) (k := 0) ho.1 hp u
        go_roundw
        case rel => exact ⟨0 + 1, _, by omega, by go_num, rfl, ho3, hp3 _, hb3⟩
        case measure => simp [intOf]
      · have hn := nib_bd v 1
        have HN : Hid (0 ≤ nib v 1 ∧ nib v 1 ≤ 15) := hn
        clear hn
        go_wp2_with (first
          | (go_at_call 12; refine (hexDigitOf_any _ _ _ HN.out.1 HN.out.2).mono ?_; rintro e w' ⟨rfl, hw⟩; have hw2 := hw.symm; clear hw; subst hw2)
          | (at_builtin; refine wpList_append_fits _ rfl _ _ 22 rfl w1.heap.size 5 i0 1 Try.underlying22 hi hz1 w1.heap.size 1 (4 + len) xs rfl (ho.alloc _) ⟨wr.heap.size, 0, none⟩ 1 1 [.int .u8 (hd (nib v 1) _)] rfl rfl (cell_one_new _ _ _) (one_one _) (by omega) ?_; intro w3 ho3 hg3))
        have hb3 := app_end (Nat.le_refl _) hb hg3
        have hp3 := fun u : Bool => pre_step (v := v) (k := 1) ho.1 hp u
        go_roundw
        case rel => exact ⟨1 + 1, _, by omega, by go_num, rfl, ho3, hp3 _, hb3⟩
        case measure => simp [intOf]
      · have hn := nib_bd v 2
        have HN : Hid (0 ≤ nib v 2 ∧ nib v 2 ≤ 15) := hn
        clear hn
        go_wp2_with (first
          | (go_at_call 12; refine (hexDigitOf_any _ _ _ HN.out.1 HN.out.2).mono ?_; rintro e w' ⟨rfl, hw⟩; have hw2 := hw.symm; clear hw; subst hw2)
          | (at_builtin; refine wpList_append_fits _ rfl _ _ 22 rfl w1.heap.size 5 i0 1 Try.underlying22 hi hz1 w1.heap.size 2 (4 + len) xs rfl (ho.alloc _) ⟨wr.heap.size, 0, none⟩ 1 1 [.int .u8 (hd (nib v 2) _)] rfl rfl (cell_one_new _ _ _) (one_one _) (by omega) ?_; intro w3 ho3 hg3))
        have hb3 := app_end (Nat.le_refl _) hb hg3
        have hp3 := fun u : Bool => pre_step (v := v) (k := 2) ho.1 hp u
        go_roundw
        case rel => exact ⟨2 + 1, _, by omega, by go_num, rfl, ho3, hp3 _, hb3⟩
        case measure => simp [intOf]
      · have hn := nib_bd v 3
        have HN : Hid (0 ≤ nib v 3 ∧ nib v 3 ≤ 15) := hn
        clear hn
        go_wp2_with (first
          | (go_at_call 12; refine (hexDigitOf_any _ _ _ HN.out.1 HN.out.2).mono ?_; rintro e w' ⟨rfl, hw⟩; have hw2 := hw.symm; clear hw; subst hw2)
          | (at_builtin; refine wpList_append_fits _ rfl _ _ 22 rfl w1.heap.size 5 i0 1 Try.underlying22 hi hz1 w1.heap.size 3 (4 + len) xs rfl (ho.alloc _) ⟨wr.heap.size, 0, none⟩ 1 1 [.int .u8 (hd (nib v 3) _)] rfl rfl (cell_one_new _ _ _) (one_one _) (by omega) ?_; intro w3 ho3 hg3))
        have hb3 := app_end (Nat.le_refl _) hb hg3
        have hp3 := fun u : Bool => pre_step (v := v) (k := 3) ho.1 hp u
        go_roundw
        case rel => exact ⟨3 + 1, _, by omega, by go_num, rfl, ho3, hp3 _, hb3⟩
        case measure => simp [intOf]
    · obtain rfl : k = 4 := by omega
      clear e0 e1 e2 e3 hlt hk
      have HR : Hid (Row w1 a1 len len z) := hs1
      clear hs1
      go_wp2
      go_loopw [7, 12] (fun bf i wr => ∃ (k : Nat) (xs : List Value), k ≤ len ∧ i = .int .i64 k ∧ bf = .slice (some ⟨w1.heap.size, 0, none⟩) (4 + k) (4 + len) ∧
          wr.ownsRow w1.heap.size 5 1 (.slice (some ⟨w1.heap.size, 0, none⟩) (4 + k) (4 + len)) (4 + k) xs ∧ Pre v 4 xs ∧ Below w1.heap.size w1 wr) (fun _ i _ => len - (intOf i).toNat)
      case atStart => exact ⟨0, xs, Nat.zero_le _, rfl, rfl, ho, hp, hb⟩
      case round =>
        obtain ⟨k, ys, hk, rfl, rfl, hoy, hpy, hby⟩ := hrel
        clear ho hp hb
        by_cases hlt : k < len
        · obtain ⟨_, _, h0 | ⟨b, off, rfl, hc⟩⟩ := HR.out
          · omega
          obtain ⟨hck, hq0, hq1⟩ := hc k hlt
          have hbl : b < w1.heap.size := block_lt_of_cell hck
          rw [← hby.cell (p := ⟨b, off + k, none⟩) hbl] at hck
          clear hc
          go_wp2_with (at_builtin; refine wpList_append_fits _ rfl _ _ 22 rfl w1.heap.size 5 i0 1 Try.underlying22 hi hz1 w1.heap.size (4 + k) (4 + len) ys rfl (hoy.alloc _) ⟨wr.heap.size, 0, none⟩ 1 1 [.int .u8 (z k)] rfl rfl (cell_one_new _ _ _) (one_one _) (by omega) ?_; intro w3 ho3 hg3)
          have hb3 := app_end (Nat.le_refl _) hby hg3
          have hp3 := pre_more hoy.1 (by omega) hpy (.int .u8 (z k))
          go_roundw
          case rel => first | exact ⟨k + 1, _, by omega, by go_num, rfl, ho3, hp3, hb3⟩ | ((repeat apply Exists.intro); exact ⟨⟨k + 1, _, by omega, by go_num, rfl, ho3, hp3, hb3⟩, rfl⟩)
          case measure => simp [intOf]; omega
        · obtain rfl : k = len := by omega
          obtain ⟨zz, hzc, hzd⟩ := pre_cells hoy (by omega) hpy
          obtain ⟨hok, hrv⟩ := read_back v hv0 hv1 zz hzd
          have hmax : 4 + k ≤ maxLen := by unfold maxLen; omega
          have HZ : Hid _ := hzc
          clear hzc hzd
          go_wp2_with (go_at_call 9; refine (zzhex4_walk _ _ _ _ zz _ (by omega) (Nat.le_refl _) hmax HZ.out).mono ?_; rintro e w' ⟨rfl, hw⟩; have hw2 := hw.symm; clear hw; subst hw2)
          go_ret
          exact ⟨rfl, HB1.out.trans (hby.mono HB1.out.size)⟩

theorem reads_walk (v m : Int) (a : Option Addr) (len cap : Nat) (z : Nat → Int) (w : World) (hv0 : 0 ≤ v) (hv1 : v ≤ 65535) (hs : Row w a len cap z) :
    Calls Try.prog 4 #[.int .u16 v, .int .u8 m, .slice a len cap] w fun e w' => e = .returned (.bool true) ∧ Below w.heap.size w w' := by
  by_cases hl : len ≤ 1048576
  · exact reads_some v m a len cap z w hv0 hv1 hs hl
  · exact reads_long v m a len cap w (Nat.le_trans hs.1 hs.2.1) hl
end Go.Proofs.Qxb6001176a
