/-
  hex4, isHexDigit, cloneBytes: the walks.
-/
import Derived.Test.Qxb6001176aRows
import Derived.WalkKit
import Derived.WalkSpells
import Derived.WalkLawsBesides
namespace Go.Proofs.Qxb6001176a
open Go.RowKit

/-- The slice value 'a, len, cap' leads to the bytes z 0, z 1, .. in w. -/
def Row (w : World) (a : Option Addr) (len cap : Nat) (z : Nat → Int) : Prop :=
  len ≤ cap ∧ cap ≤ maxLen ∧ (len = 0 ∨ ∃ b off, a = some ⟨b, off, none⟩ ∧ ∀ i, i < len → w.cell? ⟨b, off + i, none⟩ = some (.int .u8 (z i)) ∧ 0 ≤ z i ∧ z i ≤ 255)

/-- Is c a hexadecimal digit? -/
def isHexB (c : Int) : Bool := decide ((48 ≤ c ∧ c ≤ 57) ∨ (97 ≤ c ∧ c ≤ 102) ∨ (65 ≤ c ∧ c ≤ 70))
/-- Its value. -/
def hexv (c : Int) : Int := if c ≤ 57 then c - 48 else if 97 ≤ c then c - 87 else c - 55

def accH (z : Nat → Int) : Nat → Int
  | 0 => 0
  | k + 1 => 16 * accH z k + hexv (z k)
def okH (z : Nat → Int) : Nat → Bool
  | 0 => true
  | k + 1 => okH z k && isHexB (z k)

theorem hexv_bd {c : Int} (h : isHexB c = true) : 0 ≤ hexv c ∧ hexv c ≤ 15 := by
  simp only [isHexB, decide_eq_true_eq] at h
  unfold hexv
  split
  · omega
  · split <;> omega

theorem accH_bd (z : Nat → Int) : ∀ k, okH z k = true → 0 ≤ accH z k ∧ accH z k < 16 ^ k
  | 0, _ => by simp [accH]
  | k + 1, h => by
    simp only [okH, Bool.and_eq_true] at h
    have h1 := accH_bd z k h.1
    have h2 := hexv_bd h.2
    simp only [accH, Int.pow_succ]
    omega

theorem or16_nat (x d : Nat) (hx : x < 4096) (hd : d < 16) : bits .or .i32 ((x : Int) * 16) (d : Int) = 16 * (x : Int) + (d : Int) := by
  have e1 : (BitVec.ofInt 32 ((x : Int) * 16)).toNat = 2 ^ 4 * x := by
    rw [BitVec.toNat_ofInt]; omega
  have e2 : (BitVec.ofInt 32 (d : Int)).toNat = d := by
    rw [BitVec.toNat_ofInt]; omega
  have e3 : 2 ^ 4 * x ||| d = 2 ^ 4 * x + d := (Nat.two_pow_add_eq_or_of_lt (i := 4) (by omega) x).symm
  have e4 : bits .or .i32 ((x : Int) * 16) (d : Int) = IntKind.i32.wrap ((BitVec.ofInt 32 ((x : Int) * 16) ||| BitVec.ofInt 32 (d : Int)).toNat : Int) := rfl
  rw [e4, BitVec.toNat_or, e1, e2, e3]
  simp [IntKind.wrap, IntKind.bits, IntKind.signed]
  omega

theorem or16 (x d : Int) (hx0 : 0 ≤ x) (hx : x < 4096) (hd0 : 0 ≤ d) (hd : d ≤ 15) : bits .or .i32 (x * 16) d = 16 * x + d := by
  obtain ⟨a, rfl⟩ := Int.eq_ofNat_of_zero_le hx0
  obtain ⟨b, rfl⟩ := Int.eq_ofNat_of_zero_le hd0
  exact or16_nat a b (by omega) (by omega)

/-- What hex4 answers of four bytes. -/
def hexR (z : Nat → Int) : Int := if okH z 4 = true then accH z 4 else 0

theorem hexR_ok {z : Nat → Int} (h : okH z 4 = true) : hexR z = accH z 4 := by unfold hexR; rw [if_pos h]
theorem hexR_no {z : Nat → Int} (h : okH z 4 = false) : hexR z = 0 := by unfold hexR; rw [h]; simp

theorem acc_small (z : Nat → Int) (k : Nat) (hk : k < 4) (h : okH z k = true) : 0 ≤ accH z k ∧ accH z k < 4096 := by
  have h1 := accH_bd z k h
  match k, hk, h1 with
  | 0, _, h1 => omega
  | 1, _, h1 => omega
  | 2, _, h1 => omega
  | 3, _, h1 => omega

theorem okH_miss (z : Nat → Int) (k : Nat) (hk : k < 4) (h : isHexB (z k) = false) : okH z 4 = false := by
  match k, hk, h with
  | 0, _, h => simp [okH, h]
  | 1, _, h => simp [okH, h]
  | 2, _, h => simp [okH, h]
  | 3, _, h => simp [okH, h]

/-- One more digit. -/
theorem acc_step (z : Nat → Int) (k : Nat) (x d : Int) (hx : x = accH z k) (hb : 0 ≤ x ∧ x < 4096) (ho : okH z k = true) (hh : isHexB (z k) = true) (hd : d = hexv (z k)) :
    bits .or .i32 (x * 16) d = accH z (k + 1) ∧ okH z (k + 1) = true := by
  have := hexv_bd hh
  subst hd hx
  refine ⟨?_, by simp [okH, ho, hh]⟩
  rw [or16 _ _ hb.1 hb.2 this.1 this.2]
  rfl

theorem ret_bool {a b : Bool} (h : a = b) : Ending.returned (.bool a) = .returned (.bool b) := by rw [h]

theorem ret_pair {a b : Int} {p q : Bool} (h : a = b) (k : p = q) : Ending.returned (.tuple #[.int .i32 a, .bool p]) = .returned (.tuple #[.int .i32 b, .bool q]) := by rw [h, k]

set_option maxHeartbeats 400000 in
theorem hex4_walk (b off len cap : Nat) (z : Nat → Int) (w : World) (h4 : 4 ≤ len) (hlc : len ≤ cap) (hm : cap ≤ maxLen) (hc : ∀ i, i < 4 → w.cell? ⟨b, off + i, none⟩ = some (.int .u8 (z i)) ∧ 0 ≤ z i ∧ z i ≤ 255) :
    Calls Try.prog 16 #[.slice (some ⟨b, off, none⟩) len cap] w fun e w' => e = .returned (.tuple #[.int .i32 (hexR z), .bool (okH z 4)]) ∧ w' = w := by
  unfold maxLen at hm
  have HC : Hid (∀ i, i < 4 → w.cell? ⟨b, off + i, none⟩ = some (.int .u8 (z i)) ∧ 0 ≤ z i ∧ z i ≤ 255) := hc
  clear hc
  go_enter Try.func16, Try.ntmps16
  go_wp2
  go_loop [4, 6, 13] (fun r _ i => ∃ k : Nat, k ≤ 4 ∧ i = .int .i64 k ∧ r = .int .i32 (accH z k) ∧ okH z k = true) (fun _ _ i => 4 - (intOf i).toNat)
  case atStart => exact ⟨0, by omega, rfl, rfl, rfl⟩
  case round =>
    obtain ⟨k, hk, rfl, rfl, hok⟩ := hrel
    have HK : Hid (okH z k = true) := hok
    clear hok
    by_cases hlt : k < 4
    · obtain ⟨hck, hz0, hz1⟩ := HC.out k hlt
      have hb := acc_small z k hlt HK.out
      obtain ⟨x, hx⟩ : ∃ x, x = accH z k := ⟨_, rfl⟩
      obtain ⟨c, hcz⟩ : ∃ c, c = z k := ⟨_, rfl⟩
      rw [← hx] at hb ⊢
      rw [← hcz] at hck hz0 hz1
      have HX : Hid (x = accH z k) := hx
      have HZ : Hid (c = z k) := hcz
      clear hx hcz
      have cases4 : (48 ≤ c ∧ c ≤ 57) ∨ (97 ≤ c ∧ c ≤ 102) ∨ (65 ≤ c ∧ c ≤ 70) ∨ c < 48 ∨ (57 < c ∧ c < 65) ∨ (70 < c ∧ c < 97) ∨ 102 < c := by omega
      rcases cases4 with ⟨g1, g2⟩ | ⟨g1, g2⟩ | ⟨g1, g2⟩ | g1 | ⟨g1, g2⟩ | ⟨g1, g2⟩ | g1
      · have hh : isHexB (z k) = true := by rw [← HZ.out]; simp only [isHexB, decide_eq_true_eq]; omega
        have R := acc_step z k x (c - 48) HX.out hb HK.out hh (by rw [← HZ.out]; unfold hexv; rw [if_pos g2])
        have HR : Hid _ := R
        clear R hh
        go_wp2
        go_round
        case rel => exact ⟨k + 1, by omega, by go_num, by rw [← HR.out.1], HR.out.2⟩
        case measure => simp [intOf]; omega
      · have hh : isHexB (z k) = true := by rw [← HZ.out]; simp only [isHexB, decide_eq_true_eq]; omega
        have R := acc_step z k x (c - 87) HX.out hb HK.out hh (by rw [← HZ.out]; unfold hexv; rw [if_neg (by omega), if_pos g1])
        have HR : Hid _ := R
        clear R hh
        go_wp2
        go_round
        case rel => exact ⟨k + 1, by omega, by go_num, by rw [← HR.out.1], HR.out.2⟩
        case measure => simp [intOf]; omega
      · have hh : isHexB (z k) = true := by rw [← HZ.out]; simp only [isHexB, decide_eq_true_eq]; omega
        have R := acc_step z k x (c - 55) HX.out hb HK.out hh (by rw [← HZ.out]; unfold hexv; rw [if_neg (by omega), if_neg (by omega)])
        have HR : Hid _ := R
        clear R hh
        go_wp2
        go_round
        case rel => exact ⟨k + 1, by omega, by go_num, by rw [← HR.out.1], HR.out.2⟩
        case measure => simp [intOf]; omega
      all_goals
        have hh : Hid (okH z 4 = false) := okH_miss z k hlt (by rw [← HZ.out]; simp only [isHexB, decide_eq_false_iff_not]; omega)
        go_wp2
        go_ret2
        exact ⟨ret_pair (hexR_no hh.out).symm hh.out.symm, rfl⟩
    · have hk4 : k = 4 := by omega
      subst hk4
      go_wp2
      go_ret2
      exact ⟨ret_pair (hexR_ok HK.out).symm HK.out.symm, rfl⟩

set_option maxHeartbeats 400000 in
theorem hex4_short (a : Option Addr) (len cap : Nat) (w : World) (h4 : len < 4) :
    Calls Try.prog 16 #[.slice a len cap] w fun e w' => e = .returned (.tuple #[.int .i32 0, .bool false]) ∧ w' = w := by
  go_enter Try.func16, Try.ntmps16
  go_wp2
  go_ret2
  exact ⟨rfl, rfl⟩

set_option maxHeartbeats 400000 in
theorem zzhex4_walk (b off len cap : Nat) (z : Nat → Int) (w : World) (h4 : 4 ≤ len) (hlc : len ≤ cap) (hm : cap ≤ maxLen) (hc : ∀ i, i < 4 → w.cell? ⟨b, off + i, none⟩ = some (.int .u8 (z i)) ∧ 0 ≤ z i ∧ z i ≤ 255) :
    Calls Try.prog 9 #[.slice (some ⟨b, off, none⟩) len cap] w fun e w' => e = .returned (.tuple #[.int .i32 (hexR z), .bool (okH z 4)]) ∧ w' = w := by
  go_enter Try.func9, Try.ntmps9
  go_wp2_with (go_at_call 16; refine (hex4_walk _ _ _ _ z _ h4 hlc hm hc).mono ?_; rintro e w' ⟨rfl, rfl⟩)
  go_ret2
  exact ⟨rfl, rfl⟩

set_option maxHeartbeats 400000 in
theorem zzhex4_short (a : Option Addr) (len cap : Nat) (w : World) (h4 : len < 4) :
    Calls Try.prog 9 #[.slice a len cap] w fun e w' => e = .returned (.tuple #[.int .i32 0, .bool false]) ∧ w' = w := by
  go_enter Try.func9, Try.ntmps9
  go_wp2_with (go_at_call 16; refine (hex4_short _ _ _ _ h4).mono ?_; rintro e w' ⟨rfl, rfl⟩)
  go_ret2
  exact ⟨rfl, rfl⟩

set_option maxHeartbeats 400000 in
/-- isHexDigit. -/
theorem isHex_any (c : Int) (w : World) :
    Calls Try.prog 10 #[.int .u8 c] w fun e w' => e = .returned (.bool (isHexB c)) ∧ w' = w := by
  have cases4 : (48 ≤ c ∧ c ≤ 57) ∨ (97 ≤ c ∧ c ≤ 102) ∨ (65 ≤ c ∧ c ≤ 70) ∨ c < 48 ∨ (57 < c ∧ c < 65) ∨ (70 < c ∧ c < 97) ∨ 102 < c := by omega
  rcases cases4 with ⟨g1, g2⟩ | ⟨g1, g2⟩ | ⟨g1, g2⟩ | g1 | ⟨g1, g2⟩ | ⟨g1, g2⟩ | g1
  all_goals
    first
      | have HB : Hid (isHexB c = true) := by
          show isHexB c = true
          simp only [isHexB, decide_eq_true_eq]; omega
      | have HB : Hid (isHexB c = false) := by
          show isHexB c = false
          simp only [isHexB, decide_eq_false_iff_not]; omega
    go_enter Try.func10, Try.ntmps10
    go_wp2
    go_ret
    exact ⟨ret_bool (by rw [HB.out] <;> first | rfl | (simp; omega)), rfl⟩

set_option maxHeartbeats 400000 in
/-- The guards on length: some bool. -/
theorem guard7_any (a : Option Addr) (len cap : Nat) (w : World) (hm : len ≤ maxLen) :
    Calls Try.prog 7 #[.slice a len cap] w fun e w' => (e = .returned (.bool (decide (len ≤ 1048576)))) ∧ w' = w := by
  unfold maxLen at hm
  by_cases h : len ≤ 1048576
  · have HD : Hid (decide (len ≤ 1048576) = true) := decide_eq_true h
    go_enter Try.func7, Try.ntmps7
    go_wp2
    go_ret
    exact ⟨ret_bool HD.out.symm, rfl⟩
  · have HD : Hid (decide (len ≤ 1048576) = false) := decide_eq_false h
    go_enter Try.func7, Try.ntmps7
    go_wp2
    go_ret
    exact ⟨ret_bool HD.out.symm, rfl⟩

theorem Try.info5 : (Try.prog.info? 5).map (fun i => (i.zero, i.size, i.bytes)) = some (some (.int .u8 0), 1, 1) := by kernel_rfl

/-- One more byte stored into a row of the call's own. -/
theorem own_store {w wr : World} {len : Nat} {xs : List Value} {B g cap : Nat} (hB : B ≤ g) (u : Int) (j : Nat)
    (ho : wr.ownsRow B 5 1 (.slice (some ⟨g, 0, none⟩) len cap) len xs) (hb : Below B w wr) :
    (wr.setCell ⟨g, j, none⟩ (.int .u8 u)).ownsRow B 5 1 (.slice (some ⟨g, 0, none⟩) len cap) len (xs.set j (.int .u8 u)) ∧ Below B w (wr.setCell ⟨g, j, none⟩ (.int .u8 u)) :=
  ⟨(ho.stored j (.int .u8 u)).1, hb.setCell hB _⟩

theorem own_cell {wr : World} {len : Nat} {xs : List Value} {B g cap : Nat} (ho : wr.ownsRow B 5 1 (.slice (some ⟨g, 0, none⟩) len cap) len xs) (j : Nat) (h : j < len) :
    (∃ v, xs[j]? = some v ∧ wr.cell? ⟨g, j, none⟩ = some v) ∧ wr.frozen? ⟨g, j, none⟩ = false := by
  have hl := ho.1
  refine ⟨?_, ho.frozenAt j⟩
  obtain ⟨v, hv⟩ : ∃ v, xs[j]? = some v := ⟨xs[j]'(by omega), List.getElem?_eq_getElem _⟩
  exact ⟨v, hv, by rw [ho.cellAt j (by omega), hv]⟩

/-- A row of the call's own that bears the bytes z. -/
theorem own_row {wr : World} {len : Nat} {xs : List Value} {B g cap : Nat} {z : Nat → Int} (ho : wr.ownsRow B 5 1 (.slice (some ⟨g, 0, none⟩) len cap) len xs)
    (hlc : len ≤ cap) (hm : cap ≤ maxLen) (h : ∀ j, j < len → xs[j]? = some (.int .u8 (z j)) ∧ 0 ≤ z j ∧ z j ≤ 255) : Row wr (some ⟨g, 0, none⟩) len cap z := by
  refine ⟨hlc, hm, Or.inr ⟨g, 0, rfl, fun i hi => ?_⟩⟩
  rw [Nat.zero_add, ho.cellAt i (by omega), (h i hi).1]
  exact ⟨rfl, (h i hi).2⟩

set_option maxHeartbeats 400000 in
/-- cloneBytes: nil stays nil; else a new slice over the same bytes, no spare room. -/
theorem clone_any (a : Option Addr) (len cap : Nat) (z : Nat → Int) (w : World) (hs : Row w a len cap z) (hsm : len ≤ 1048576) :
    Calls Try.prog 8 #[.slice a len cap] w fun e w' => ∃ a', e = .returned (.slice a' len len) ∧ Row w' a' len len z ∧ Below w.heap.size w w' := by
  obtain ⟨hlc, hm, hs⟩ := hs
  have hm0 := hm
  unfold maxLen at hm
  obtain ⟨i0, hi, hz0, hz1, hz2⟩ := info_parts Try.info5
  have hnil := fun (w : World) (a : Option Addr) (l c : Nat) => Lib.run_eql_slice_nil (P := Try.prog) w 22 5 a l c 0 0 Try.underlying22
  cases a with
  | none =>
    have h0 : len = 0 := by rcases hs with h0 | ⟨b, off, h, _⟩ <;> simp_all
    go_enter Try.func8, Try.ntmps8
    go_wp2
    go_ret
    subst h0
    exact ⟨none, rfl, ⟨Nat.le_refl _, Nat.zero_le _, .inl rfl⟩, Below.refl _ _⟩
  | some ad =>
    go_enter Try.func8, Try.ntmps8
    go_wp2_with (at_make; refine wpList_make_full _ rfl _ _ 22 rfl w.heap.size 5 i0 (.int .u8 0) 1 Try.underlying22 hi hz0 hz1 .i64 .i64 _ _ len rfl rfl rfl rfl (by rw [hz2]; omega) (by unfold maxLen; omega) (Nat.le_refl _) ?_; intro w1 hown hgrow)
    go_loopw [4] (fun i wr => ∃ (k : Nat) (xs : List Value), k ≤ len ∧ i = .int .i64 k ∧ wr.ownsRow w.heap.size 5 1 (.slice (some ⟨w.heap.size, 0, none⟩) len len) len xs ∧
        Below w.heap.size w wr ∧ ∀ j, j < k → xs[j]? = some (.int .u8 (z j)) ∧ 0 ≤ z j ∧ z j ≤ 255) (fun i _ => len - (intOf i).toNat)
    case atStart => exact ⟨0, _, Nat.zero_le _, rfl, hown, (Below.refl _ _).grown hgrow (Nat.le_refl _) (fun k h => by cases h), fun j h => by omega⟩
    case round =>
      obtain ⟨k, xs, hk, rfl, ho, hb, hx⟩ := hrel
      have HX : Hid (∀ j, j < k → xs[j]? = some (.int .u8 (z j)) ∧ 0 ≤ z j ∧ z j ≤ 255) := hx
      clear hx
      by_cases hlt : k < len
      · rcases hs with h0 | ⟨b, off, had, hc⟩
        · omega
        cases had
        obtain ⟨hck, hq0, hq1⟩ := hc k hlt
        have hbl : b < w.heap.size := block_lt_of_cell hck
        rw [← hb.cell (p := ⟨b, off + k, none⟩) hbl] at hck
        obtain ⟨⟨v, _, hv⟩, hf⟩ := own_cell ho k hlt
        obtain ⟨ho', hb'⟩ := own_store (Nat.le_refl _) (z k) k ho hb
        clear hc
        go_wp2
        go_roundw
        case rel =>
          refine ⟨k + 1, _, by omega, by go_num, ho', hb', fun j hj => ?_⟩
          have hxl := ho.1
          by_cases hjk : j = k
          · subst hjk
            rw [List.getElem?_set_self (by omega)]
            exact ⟨rfl, hq0, hq1⟩
          · rw [List.getElem?_set_ne (by omega)]
            exact HX.out j (by omega)
        case measure => simp [intOf]; omega
      · go_wp2
        go_ret
        exact ⟨_, rfl, own_row ho (Nat.le_refl _) (by omega) (fun j hj => HX.out j (by omega)), hb⟩
end Go.Proofs.Qxb6001176a
