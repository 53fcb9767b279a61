/-
  FnHex4AcceptsExactlyFourHexDigits: the walk.
-/
import Derived.Test.Qxb6001176aHex
import Derived.Deep.RegionWith
namespace Go.Proofs.Qxb6001176a
open Go.RowKit

theorem hexR_bd (z : Nat → Int) : 0 ≤ hexR z ∧ hexR z ≤ 65535 := by
  cases h : okH z 4 with
  | false => rw [hexR_no h]; omega
  | true =>
    rw [hexR_ok h]
    have := accH_bd z 4 h
    omega

theorem ok_of {z : Nat → Int} (h0 : isHexB (z 0) = true) (h1 : isHexB (z 1) = true) (h2 : isHexB (z 2) = true) (h3 : isHexB (z 3) = true) : okH z 4 = true := by simp [okH, h0, h1, h2, h3]

set_option maxHeartbeats 400000 in
/-- Too long: the law says true at once. -/
theorem accepts_long (a : Option Addr) (len cap : Nat) (w : World) (hm : len ≤ maxLen) (hl : ¬ len ≤ 1048576) :
    Calls Try.prog 3 #[.slice a len cap] w fun e w' => e = .returned (.bool true) ∧ Below w.heap.size w w' := by
  have hd : decide (len ≤ 1048576) = false := decide_eq_false hl
  go_enter Try.func3, Try.ntmps3
  go_wp2_with (go_at_call 7; refine (guard7_any _ _ _ _ hm).mono ?_; rintro e w' ⟨rfl, rfl⟩)
  go_ret
  exact ⟨rfl, Below.refl _ _⟩

set_option maxHeartbeats 400000 in
/-- Fewer than four bytes. -/
theorem accepts_few (a : Option Addr) (len cap : Nat) (z : Nat → Int) (w : World) (hs : Row w a len cap z) (hl : len < 4) :
    Calls Try.prog 3 #[.slice a len cap] w fun e w' => e = .returned (.bool true) ∧ Below w.heap.size w w' := by
  have hm : len ≤ maxLen := Nat.le_trans hs.1 hs.2.1
  have hd : decide (len ≤ 1048576) = true := decide_eq_true (by omega)
  go_enter Try.func3, Try.ntmps3
  go_wp2_with (first
    | (go_at_call 7; refine (guard7_any _ _ _ _ hm).mono ?_; rintro e w' ⟨rfl, hw⟩; have hw2 := hw.symm; clear hw; subst hw2)
    | (go_at_call 8; refine (clone_any _ _ _ z _ hs (by omega)).mono ?_; rintro e w1 ⟨a1, rfl, hs1, hb1⟩)
    | (go_at_call 9; refine (zzhex4_short _ _ _ _ hl).mono ?_; rintro e w' ⟨rfl, rfl⟩))
  go_ret
  exact ⟨rfl, hb1⟩

set_option maxHeartbeats 400000 in
/-- Four bytes or more. -/
theorem accepts_some (a : Option Addr) (len cap : Nat) (z : Nat → Int) (w : World) (hs : Row w a len cap z) (h4 : 4 ≤ len) (hl : len ≤ 1048576) :
    Calls Try.prog 3 #[.slice a len cap] w fun e w' => e = .returned (.bool true) ∧ Below w.heap.size w w' := by
  have hm : len ≤ maxLen := Nat.le_trans hs.1 hs.2.1
  have hd : decide (len ≤ 1048576) = true := decide_eq_true hl
  have hr := hexR_bd z
  have cases5 : isHexB (z 0) = false ∨ (isHexB (z 0) = true ∧ isHexB (z 1) = false) ∨ (isHexB (z 0) = true ∧ isHexB (z 1) = true ∧ isHexB (z 2) = false) ∨
      (isHexB (z 0) = true ∧ isHexB (z 1) = true ∧ isHexB (z 2) = true ∧ isHexB (z 3) = false) ∨ (isHexB (z 0) = true ∧ isHexB (z 1) = true ∧ isHexB (z 2) = true ∧ isHexB (z 3) = true) := by
    cases isHexB (z 0) <;> cases isHexB (z 1) <;> cases isHexB (z 2) <;> cases isHexB (z 3) <;> simp
  go_enter Try.func3, Try.ntmps3
  go_wp2_with (first
    | (go_at_call 7; refine (guard7_any _ _ _ _ hm).mono ?_; rintro e w' ⟨rfl, hw⟩; have hw2 := hw.symm; clear hw; subst hw2)
    | (go_at_call 8; refine (clone_any _ _ _ z _ hs (by omega)).mono ?_; rintro e w1 ⟨a1, rfl, hs1, hb1⟩)
    | fail)
  obtain ⟨_, _, h0 | ⟨b, off, rfl, hc⟩⟩ := hs1
  · omega
  have HB : Hid _ := hb1
  have HC : Hid (∀ i, i < 4 → w1.cell? ⟨b, off + i, none⟩ = some (.int .u8 (z i)) ∧ 0 ≤ z i ∧ z i ≤ 255) := fun i hi => hc i (by omega)
  have c0 : w1.cell? ⟨b, off, none⟩ = some (.int .u8 (z 0)) := (HC.out 0 (by omega)).1
  have c1 := (HC.out 1 (by omega)).1
  have c2 := (HC.out 2 (by omega)).1
  have c3 := (HC.out 3 (by omega)).1
  clear hc hb1 hs
  rcases cases5 with g0 | ⟨g0, g1⟩ | ⟨g0, g1, g2⟩ | ⟨g0, g1, g2, g3⟩ | ⟨g0, g1, g2, g3⟩
  · have hk := okH_miss z 0 (by omega) g0
    have hr0 := hexR_no hk
    clear hr
    go_wp2_with (first
      | (go_at_call 9; refine (zzhex4_walk _ _ _ _ z _ h4 (Nat.le_refl _) hm HC.out).mono ?_; rintro e w' ⟨rfl, hw⟩; have hw2 := hw.symm; clear hw; subst hw2)
      | (go_at_call 10; refine (isHex_any _ _).mono ?_; rintro e w' ⟨rfl, hw⟩; have hw2 := hw.symm; clear hw; subst hw2))
    go_ret
    exact ⟨rfl, HB.out⟩
  · have hk := okH_miss z 1 (by omega) g1
    have hr0 := hexR_no hk
    clear hr
    go_wp2_with (first
      | (go_at_call 9; refine (zzhex4_walk _ _ _ _ z _ h4 (Nat.le_refl _) hm HC.out).mono ?_; rintro e w' ⟨rfl, hw⟩; have hw2 := hw.symm; clear hw; subst hw2)
      | (go_at_call 10; refine (isHex_any _ _).mono ?_; rintro e w' ⟨rfl, hw⟩; have hw2 := hw.symm; clear hw; subst hw2))
    go_ret
    exact ⟨rfl, HB.out⟩
  · have hk := okH_miss z 2 (by omega) g2
    have hr0 := hexR_no hk
    clear hr
    go_wp2_with (first
      | (go_at_call 9; refine (zzhex4_walk _ _ _ _ z _ h4 (Nat.le_refl _) hm HC.out).mono ?_; rintro e w' ⟨rfl, hw⟩; have hw2 := hw.symm; clear hw; subst hw2)
      | (go_at_call 10; refine (isHex_any _ _).mono ?_; rintro e w' ⟨rfl, hw⟩; have hw2 := hw.symm; clear hw; subst hw2))
    go_ret
    exact ⟨rfl, HB.out⟩
  · have hk := okH_miss z 3 (by omega) g3
    have hr0 := hexR_no hk
    clear hr
    go_wp2_with (first
      | (go_at_call 9; refine (zzhex4_walk _ _ _ _ z _ h4 (Nat.le_refl _) hm HC.out).mono ?_; rintro e w' ⟨rfl, hw⟩; have hw2 := hw.symm; clear hw; subst hw2)
      | (go_at_call 10; refine (isHex_any _ _).mono ?_; rintro e w' ⟨rfl, hw⟩; have hw2 := hw.symm; clear hw; subst hw2))
    go_ret
    exact ⟨rfl, HB.out⟩
  · have hk := ok_of g0 g1 g2 g3
    go_wp2_with (first
      | (go_at_call_of 9 (Value.slice (some ⟨b, off, none⟩) len len); refine (zzhex4_walk _ _ _ _ z _ h4 (Nat.le_refl _) hm HC.out).mono ?_; rintro e w' ⟨rfl, hw⟩; have hw2 := hw.symm; clear hw; subst hw2)
      | (go_at_call_of 9 (Value.slice (some ⟨b, off, none⟩) 4 len); refine (zzhex4_walk _ _ 4 _ z _ (Nat.le_refl _) h4 hm HC.out).mono ?_; rintro e w' ⟨rfl, hw⟩; have hw2 := hw.symm; clear hw; subst hw2)
      | (go_at_call 10; refine (isHex_any _ _).mono ?_; rintro e w' ⟨rfl, hw⟩; have hw2 := hw.symm; clear hw; subst hw2))
    go_ret
    exact ⟨rfl, HB.out⟩

theorem accepts_walk (a : Option Addr) (len cap : Nat) (z : Nat → Int) (w : World) (hs : Row w a len cap z) :
    Calls Try.prog 3 #[.slice a len cap] w fun e w' => e = .returned (.bool true) ∧ Below w.heap.size w w' := by
  by_cases hl : len ≤ 1048576
  · by_cases h4 : 4 ≤ len
    · exact accepts_some a len cap z w hs h4 hl
    · exact accepts_few a len cap z w hs (by omega)
  · exact accepts_long a len cap w (Nat.le_trans hs.1 hs.2.1) hl
end Go.Proofs.Qxb6001176a
