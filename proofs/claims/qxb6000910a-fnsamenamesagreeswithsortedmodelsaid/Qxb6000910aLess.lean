/-
  zzB1Less, zzB1Distinct: the walks.
-/
import Derived.Test.Qxb6000910aPlain
import Derived.Deep.QuietTactic
import Derived.BigQuiet
namespace Go.Proofs.Qxb6000910a
open Go.RowKit

theorem drew2 (w : World) (a b : Nat) : ∃ n, (w.drewN a).drewN b = w.drewN n := ⟨a + b, by rw [World.drewN_drewN]⟩
theorem drew3 (w : World) (a b c : Nat) : ∃ n, ((w.drewN a).drewN b).drewN c = w.drewN n := ⟨a + (b + c), by rw [World.drewN_drewN, World.drewN_drewN]⟩

theorem drop_at (x : ByteArray) (k : Nat) (h : k < x.size) : x.toList.drop k = x[k] :: x.toList.drop (k + 1) := by
  rw [ByteArray.toList_eq, List.drop_eq_getElem_cons (by simpa using h)]
  rfl

theorem less_part (x y : ByteArray) (k : Nat) (hx : k < x.size) (hy : k < y.size) (h : ((x[k].toNat : Int) != (y[k].toNat : Int)) = true) :
    lessL (x.toList.drop k) (y.toList.drop k) = decide (x[k].toNat < y[k].toNat) := by
  rw [drop_at x k hx, drop_at y k hy]
  have e : ¬ x[k] = y[k] := fun q => by rw [q] at h; simp at h
  simp only [lessL, if_neg e]
  rw [Bool.eq_iff_iff]
  simp [UInt8.lt_iff_toNat_lt]

theorem less_same (x y : ByteArray) (k : Nat) (hx : k < x.size) (hy : k < y.size) (h : ((x[k].toNat : Int) != (y[k].toNat : Int)) = false) :
    lessL (x.toList.drop (k + 1)) (y.toList.drop (k + 1)) = lessL (x.toList.drop k) (y.toList.drop k) := by
  rw [drop_at x k hx, drop_at y k hy]
  have e : x[k] = y[k] := by
    simp at h
    exact UInt8.toNat_inj.1 (by omega)
  simp only [lessL, if_pos e]

theorem less_end (x y : ByteArray) (k : Nat) (hx : k ≤ x.size) (hy : k ≤ y.size) (h : k = x.size ∨ k = y.size) :
    lessL (x.toList.drop k) (y.toList.drop k) = decide (x.size < y.size) := by
  rcases h with rfl | rfl
  · rw [List.drop_eq_nil_of_le (by rw [ByteArray.toList_eq]; simp)]
    by_cases e : x.size < y.size
    · rw [drop_at y x.size e]; simp [lessL]; omega
    · rw [List.drop_eq_nil_of_le (by rw [ByteArray.toList_eq]; simp; omega)]; simp [lessL]; omega
  · rw [show y.toList.drop y.size = [] from List.drop_eq_nil_of_le (by rw [ByteArray.toList_eq]; simp)]
    by_cases e : y.size < x.size
    · rw [drop_at x y.size e]; simp [lessL]; omega
    · rw [List.drop_eq_nil_of_le (by rw [ByteArray.toList_eq]; simp; omega)]; simp [lessL]; omega

set_option maxHeartbeats 400000 in
theorem less_y (x y : ByteArray) (w : World) (hx : x.size ≤ maxLen) (hxy : y.size < x.size) :
    Calls Try.prog 30 #[.string x, .string y] w fun e w' => e = .returned (.bool (lessL x.toList y.toList)) ∧ ∃ n, w' = w.drewN n := by
  unfold maxLen at hx
  go_enter Try.func30, Try.ntmps30
  go_wp2
  go_loopw [6] (fun i wr => ∃ (k n : Nat), k ≤ y.size ∧ i = .int .i64 k ∧ wr = w.drewN n ∧ lessL (x.toList.drop k) (y.toList.drop k) = lessL x.toList y.toList) (fun i _ => y.size - (intOf i).toNat)
  case atStart => exact ⟨0, 0, Nat.zero_le _, rfl, rfl, rfl⟩
  case round =>
    obtain ⟨k, n, hk, rfl, rfl, hR⟩ := hrel
    have HR : Hid (lessL (x.toList.drop k) (y.toList.drop k) = lessL x.toList y.toList) := hR
    clear hR
    by_cases hlt : k < y.size
    · have hkx : (k : Int) < (x.size : Int) := by omega
      have hky : (k : Int) < (y.size : Int) := by omega
      go_wp2
      go_quiet (fail)
      go_wp2
      · have h : ((x[k].toNat : Int) != (y[k].toNat : Int)) = true := by assumption
        go_quiet (fail)
        go_wp2
        go_ret
        exact ⟨ret_bool (by rw [← HR.out, less_part x y k (by omega) (by omega) h]), drew3 _ _ _ _⟩
      · have h : ((x[k].toNat : Int) != (y[k].toNat : Int)) = false := by assumption
        go_roundw
        case rel => exact ⟨k + 1, _, by omega, by go_num, rfl, by rw [less_same x y k (by omega) (by omega) h, HR.out]⟩
        case measure => simp [intOf]; omega
    · go_wp2
      go_ret
      exact ⟨ret_bool (by rw [← HR.out, less_end x y k (by omega) (by omega) (by omega)]), _, rfl⟩

set_option maxHeartbeats 400000 in
theorem less_x (x y : ByteArray) (w : World) (hy : y.size ≤ maxLen) (hxy : ¬ y.size < x.size) :
    Calls Try.prog 30 #[.string x, .string y] w fun e w' => e = .returned (.bool (lessL x.toList y.toList)) ∧ ∃ n, w' = w.drewN n := by
  unfold maxLen at hy
  go_enter Try.func30, Try.ntmps30
  go_wp2
  go_loopw [6] (fun i wr => ∃ (k n : Nat), k ≤ x.size ∧ i = .int .i64 k ∧ wr = w.drewN n ∧ lessL (x.toList.drop k) (y.toList.drop k) = lessL x.toList y.toList) (fun i _ => x.size - (intOf i).toNat)
  case atStart => exact ⟨0, 0, Nat.zero_le _, rfl, rfl, rfl⟩
  case round =>
    obtain ⟨k, n, hk, rfl, rfl, hR⟩ := hrel
    have HR : Hid (lessL (x.toList.drop k) (y.toList.drop k) = lessL x.toList y.toList) := hR
    clear hR
    by_cases hlt : k < x.size
    · have hkx : (k : Int) < (x.size : Int) := by omega
      have hky : (k : Int) < (y.size : Int) := by omega
      go_wp2
      go_quiet (fail)
      go_wp2
      · have h : ((x[k].toNat : Int) != (y[k].toNat : Int)) = true := by assumption
        go_quiet (fail)
        go_wp2
        go_ret
        exact ⟨ret_bool (by rw [← HR.out, less_part x y k (by omega) (by omega) h]), drew3 _ _ _ _⟩
      · have h : ((x[k].toNat : Int) != (y[k].toNat : Int)) = false := by assumption
        go_roundw
        case rel => exact ⟨k + 1, _, by omega, by go_num, rfl, by rw [less_same x y k (by omega) (by omega) h, HR.out]⟩
        case measure => simp [intOf]; omega
    · go_wp2
      go_ret
      exact ⟨ret_bool (by rw [← HR.out, less_end x y k (by omega) (by omega) (by omega)]), _, rfl⟩

/-- zzB1Less: it only reads, in an open order. -/
theorem less_any (x y : ByteArray) (w : World) (hx : x.size ≤ maxLen) (hy : y.size ≤ maxLen) :
    Calls Try.prog 30 #[.string x, .string y] w fun e w' => e = .returned (.bool (lessL x.toList y.toList)) ∧ ∃ n, w' = w.drewN n := by
  by_cases h : y.size < x.size
  · exact less_y x y w hx h
  · exact less_x x y w hy h

/-- Two strings of one list at places i < j that do not part. -/
theorem str_eq_key (ss : List ByteArray) (i j : Nat) (s t : ByteArray) (hs : s = ss.getD i ByteArray.empty) (ht : t = ss.getD j ByteArray.empty) (h : (s.toList == t.toList) = false) : key ss i ≠ key ss j := by
  subst hs ht
  unfold key
  simpa using h

set_option maxHeartbeats 400000 in
/-- zzB1Distinct: where it says true no two strings are the same. It only reads, in an open order. -/
theorem distinct_any (a : Option Addr) (len cap : Nat) (ss : List ByteArray) (w : World) (hs : Strs w a len ss) :
    Calls Try.prog 23 #[.slice a len cap] w fun e w' => ∃ bo : Bool, e = .returned (.bool bo) ∧ (bo = true → Dist ss) ∧ ∃ n, w' = w.drewN n := by
  obtain ⟨hlen, hmax, hs⟩ := hs
  unfold maxLen at hmax
  go_enter Try.func23, Try.ntmps23
  go_wp2
  go_loopw [3, 4] (fun i _ wr => ∃ (k n : Nat), k ≤ len ∧ i = .int .i64 k ∧ wr = w.drewN n ∧ ∀ p q, p < k → p < q → q < len → key ss p ≠ key ss q) (fun i _ _ => len - (intOf i).toNat)
  case atStart => exact ⟨0, 0, Nat.zero_le _, rfl, rfl, fun p q h => by omega⟩
  case round =>
    obtain ⟨k, n, hk, rfl, rfl, hR⟩ := hrel
    have HR : Hid (∀ p q, p < k → p < q → q < len → key ss p ≠ key ss q) := hR
    clear hR
    by_cases hlt : k < len
    · rcases hs with h0 | ⟨b, off, rfl, hc⟩
      · omega
      have hck := hc k hlt
      obtain ⟨s, hse⟩ : ∃ s, s = ss.getD k ByteArray.empty := ⟨_, rfl⟩
      rw [← hse] at hck
      have HS : Hid (s = ss.getD k ByteArray.empty) := hse
      have HC : Hid (∀ i, i < len → w.cell? ⟨b, off + i, none⟩ = some (.string (ss.getD i ByteArray.empty))) := hc
      clear hse hc
      go_wp2
      go_loopw [4] (fun j wr => ∃ (l n : Nat), k < l ∧ l ≤ len ∧ j = .int .i64 l ∧ wr = w.drewN n ∧ ∀ q, k < q → q < l → key ss k ≠ key ss q) (fun j _ => len - (intOf j).toNat)
      case atStart => exact ⟨k + 1, n, by omega, by omega, by go_num, rfl, fun q h => by omega⟩
      case round =>
        obtain ⟨l, m, hkl, hl, rfl, rfl, hQ⟩ := hrel
        have HQ : Hid (∀ q, k < q → q < l → key ss k ≠ key ss q) := hQ
        clear hQ
        by_cases hll : l < len
        · have hcl := HC.out l hll
          obtain ⟨t, hte⟩ : ∃ t, t = ss.getD l ByteArray.empty := ⟨_, rfl⟩
          rw [← hte] at hcl
          have HT : Hid (t = ss.getD l ByteArray.empty) := hte
          clear hte
          have g1 : (k : Int) < (len : Int) := by omega
          have g2 : (l : Int) < (len : Int) := by omega
          go_wp2
          go_quiet (fail)
          go_wp2
          · go_ret
            exact ⟨_, rfl, (fun h => by cases h), drew2 _ _ _⟩
          · have hne : (s.toList == t.toList) = false := by assumption
            go_roundw
            case rel =>
              refine ⟨l + 1, _, by omega, by omega, by go_num, rfl, fun q h1 h2 => ?_⟩
              by_cases e : q = l
              · subst e; exact str_eq_key ss k q s t HS.out HT.out hne
              · exact HQ.out q h1 (by omega)
            case measure => simp [intOf]; omega
        · go_wp2
          go_roundw
          case rel =>
            refine ⟨k + 1, m, by omega, by go_num, rfl, fun p q h1 h2 h3 => ?_⟩
            by_cases e : p = k
            · subst e; exact HQ.out q h2 (by omega)
            · exact HR.out p q (by omega) h2 h3
          case measure => simp [intOf]; omega
    · go_wp2
      go_ret
      exact ⟨_, rfl, fun _ => dist_of ss (fun p q hpq hq => HR.out p q (by omega) hpq (by omega)), _, rfl⟩
end Go.Proofs.Qxb6000910a
