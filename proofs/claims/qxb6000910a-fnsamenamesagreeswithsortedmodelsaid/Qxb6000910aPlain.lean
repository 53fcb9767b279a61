/-
  The plain law behind FnSameNamesAgreesWithSortedModel: no Go in sight.
-/
import Derived.Test.Qxb6000910aReorderWalk
namespace Go.Proofs.Qxb6000910a

/-- Bytes in the order of the text: the first that parts decides; else the shorter is less. -/
def lessL : List UInt8 → List UInt8 → Bool
  | [], [] => false
  | [], _ :: _ => true
  | _ :: _, [] => false
  | x :: xs, y :: ys => if x = y then lessL xs ys else decide (x < y)

theorem lessL_irrefl : ∀ a, lessL a a = false
  | [] => rfl
  | x :: xs => by simp [lessL, lessL_irrefl xs]

theorem lessL_total : ∀ a b, lessL a b = false → lessL b a = false → a = b
  | [], [], _, _ => rfl
  | [], _ :: _, h, _ => by simp [lessL] at h
  | _ :: _, [], _, h => by simp [lessL] at h
  | x :: xs, y :: ys, h, k => by
    by_cases e : x = y
    · subst e
      simp [lessL] at h k
      rw [lessL_total xs ys h k]
    · have e' : ¬ y = x := fun q => e q.symm
      simp [lessL, e, e'] at h k
      exact absurd (UInt8.le_antisymm k h) e

theorem lessL_trans : ∀ a b c, lessL a b = true → lessL b c = true → lessL a c = true
  | [], [], c, h, _ => by simp [lessL] at h
  | [], _ :: _, [], _, k => by simp [lessL] at k
  | [], _ :: _, _ :: _, _, _ => rfl
  | _ :: _, [], _, h, _ => by simp [lessL] at h
  | _ :: _, _ :: _, [], _, k => by simp [lessL] at k
  | x :: xs, y :: ys, z :: zs, h, k => by
    by_cases e : x = y
    · subst e
      by_cases f : x = z
      · subst f
        simp [lessL] at h k ⊢
        exact lessL_trans xs ys zs h k
      · simp [lessL, f] at h k ⊢
        exact k
    · by_cases f : y = z
      · subst f
        simp [lessL, e] at h k ⊢
        exact h
      · simp [lessL, e, f] at h k
        have hk : x < z := UInt8.lt_trans h k
        have g : ¬ x = z := fun q => by subst q; exact UInt8.lt_irrefl _ hk
        simp [lessL, g]
        exact hk

theorem lessL_le_trans (a b c : List UInt8) (h : lessL b a = false) (k : lessL c b = false) : lessL c a = false := by
  cases e : lessL c a with
  | false => rfl
  | true =>
    cases f : lessL b c with
    | true => rw [lessL_trans b c a f e] at h; cases h
    | false =>
      have := lessL_total b c f k
      subst this
      rw [e] at h; cases h

theorem lessL_le_of_lt (a b : List UInt8) (h : lessL a b = true) : lessL b a = false := by
  cases e : lessL b a with
  | false => rfl
  | true => have := lessL_trans a b a h e; rw [lessL_irrefl] at this; cases this

/-- The bytes of the string at place i. -/
def key (cs : List ByteArray) (i : Nat) : List UInt8 := (cs.getD i ByteArray.empty).toList

def SortedTo (cs : List ByteArray) (m : Nat) : Prop := ∀ p q, p < q → q < m → lessL (key cs q) (key cs p) = false
/-- Up to i all is in order but for what stands at j. -/
def Ins (cs : List ByteArray) (i j : Nat) : Prop := ∀ p q, p < q → q ≤ i → q ≠ j → lessL (key cs q) (key cs p) = false
def Dist (ss : List ByteArray) : Prop := (ss.map ByteArray.toList).Nodup

theorem ins_start {cs : List ByteArray} {i : Nat} (h : SortedTo cs i) : Ins cs i i := fun p q hpq hq hne => h p q hpq (by omega)

theorem ins_stop {cs : List ByteArray} {i j : Nat} (h : Ins cs i j) (hs : j = 0 ∨ lessL (key cs j) (key cs (j - 1)) = false) : SortedTo cs (i + 1) := by
  intro p q hpq hq
  by_cases hj : q = j
  · subst hj
    rcases hs with h0 | h1
    · omega
    · by_cases hp : p = q - 1
      · subst hp; exact h1
      · exact lessL_le_trans _ (key cs (q - 1)) _ (h p (q - 1) (by omega) (by omega) (by omega)) h1
  · exact h p q hpq (by omega) hj

/-- The strings at j - 1 and j change places. -/
def swp (cs : List ByteArray) (j : Nat) : List ByteArray := (cs.set j (cs.getD (j - 1) ByteArray.empty)).set (j - 1) (cs.getD j ByteArray.empty)

theorem swp_length (cs : List ByteArray) (j : Nat) : (swp cs j).length = cs.length := by simp [swp]

theorem swp_perm : ∀ (j : Nat) (cs : List ByteArray), j + 1 < cs.length → (swp cs (j + 1)).Perm cs
  | 0, [], h => by simp at h
  | 0, [_], h => by simp at h
  | 0, a :: b :: r, _ => by simp [swp]; exact List.Perm.swap _ _ _
  | j + 1, [], h => by simp at h
  | j + 1, a :: r, h => by
    have := swp_perm j r (by simpa using h)
    simp [swp] at this ⊢
    exact this

theorem key_swp (cs : List ByteArray) (j q : Nat) (h1 : 1 ≤ j) (hj : j < cs.length) : key (swp cs j) q = if q = j then key cs (j - 1) else if q = j - 1 then key cs j else key cs q := by
  unfold key swp
  congr 1
  simp only [List.getD]
  by_cases e : q = j
  · subst e
    rw [if_pos rfl, List.getElem?_set_ne (by omega), List.getElem?_set_self hj]
    simp
  · rw [if_neg e]
    by_cases f : q = j - 1
    · subst f
      rw [if_pos rfl, List.getElem?_set_self (by simp; omega)]
      simp
    · rw [if_neg f, List.getElem?_set_ne (by omega), List.getElem?_set_ne (by omega)]

theorem ins_step {cs : List ByteArray} {i j : Nat} (h : Ins cs i j) (h1 : 1 ≤ j) (hji : j ≤ i) (hi : i < cs.length) (hl : lessL (key cs j) (key cs (j - 1)) = true) : Ins (swp cs j) i (j - 1) := by
  intro p q hpq hq hne
  have hle := lessL_le_of_lt _ _ hl
  rw [key_swp cs j q h1 (by omega), key_swp cs j p h1 (by omega)]
  by_cases e : q = j
  · subst e
    rw [if_pos rfl, if_neg (by omega)]
    by_cases f : p = q - 1
    · rw [if_pos f]; exact hle
    · rw [if_neg f]; exact h p (q - 1) (by omega) (by omega) (by omega)
  · rw [if_neg e, if_neg hne]
    by_cases g : p = j
    · rw [if_pos g]; exact h (j - 1) q (by omega) hq e
    · rw [if_neg g]
      by_cases f : p = j - 1
      · rw [if_pos f]; exact h j q (by omega) hq e
      · rw [if_neg f]; exact h p q hpq hq e

/-- Do the two lists bear the same bytes at the first k places? -/
def eqTo (rr qq : List ByteArray) : Nat → Bool
  | 0 => true
  | k + 1 => eqTo rr qq k && (key rr k == key qq k)

theorem eqTo_iff (rr qq : List ByteArray) : ∀ k, eqTo rr qq k = true ↔ ∀ i, i < k → key rr i = key qq i
  | 0 => by simp [eqTo]
  | k + 1 => by
    simp only [eqTo, Bool.and_eq_true, beq_iff_eq, eqTo_iff rr qq k]
    constructor
    · rintro ⟨h, g⟩ i hi
      by_cases e : i = k
      · subst e; exact g
      · exact h i (by omega)
    · intro h
      exact ⟨fun i hi => h i (by omega), h k (by omega)⟩

theorem dist_of (ss : List ByteArray) (h : ∀ i j, i < j → j < ss.length → key ss i ≠ key ss j) : Dist ss := by
  unfold Dist List.Nodup
  rw [List.pairwise_iff_getElem]
  intro i j hi hj hij
  have := h i j hij (by simpa using hj)
  simp only [List.length_map] at hi hj
  simpa [key, List.getD, hi, hj] using this

theorem dist_keys {rr : List ByteArray} (h : Dist rr) {i j : Nat} (hij : i < j) (hj : j < rr.length) : key rr i ≠ key rr j := by
  unfold Dist List.Nodup at h
  rw [List.pairwise_iff_getElem] at h
  have hi : i < rr.length := by omega
  have := h i j (by simpa using hi) (by simpa using hj) hij
  simpa [key, List.getD, hi, hj] using this

theorem dist_perm {rr ss : List ByteArray} (hp : rr.Perm ss) (h : Dist ss) : Dist rr := ((hp.map ByteArray.toList).nodup_iff).2 h

theorem key_mem {rr : List ByteArray} {i : Nat} (h : i < rr.length) : ∃ s ∈ rr, s.toList = key rr i := ⟨rr[i], List.getElem_mem h, by simp [key, List.getD, h]⟩

theorem mem_key {rr : List ByteArray} {s : ByteArray} (h : s ∈ rr) : ∃ i, i < rr.length ∧ key rr i = s.toList := by
  obtain ⟨i, hi, rfl⟩ := List.getElem_of_mem h
  exact ⟨i, hi, by simp [key, List.getD, hi]⟩

theorem hasS_iff (tt : List ByteArray) (s : ByteArray) : hasS tt s = true ↔ ∃ t ∈ tt, t.toList = s.toList := by
  unfold hasS
  simp

theorem allS_iff (ss tt : List ByteArray) : allS ss tt = true ↔ ∀ s ∈ ss, ∃ t ∈ tt, t.toList = s.toList := by
  unfold allS
  simp only [List.all_eq_true, hasS_iff]

/-- Two rising rows of one length, the first inside the second, are one. -/
theorem rising (f g : Nat → List UInt8) (n : Nat) (hf : ∀ i j, i < j → j < n → lessL (f i) (f j) = true) (hg : ∀ i j, i < j → j < n → lessL (g i) (g j) = true)
    (hin : ∀ i, i < n → ∃ j, j < n ∧ g j = f i) : ∀ i, i < n → f i = g i := by
  have back : ∀ i j i' j', i < n → j < n → i' < n → j' < n → g j = f i → g j' = f i' → i < i' → j < j' := by
    intro i j i' j' hi hj hi' hj' e e' hlt
    have h1 := hf i i' hlt hi'
    rw [← e, ← e'] at h1
    rcases Nat.lt_trichotomy j j' with h | h | h
    · exact h
    · subst h; rw [lessL_irrefl] at h1; cases h1
    · have h2 := hg j' j h hj
      have := lessL_le_of_lt _ _ h2
      rw [h1] at this; cases this
  have lo : ∀ i, i < n → ∀ j, j < n → g j = f i → i ≤ j := by
    intro i
    induction i with
    | zero => intro _ j _ _; exact Nat.zero_le _
    | succ i ih =>
      intro hi j hj e
      obtain ⟨j', hj', e'⟩ := hin i (by omega)
      have h1 := ih (by omega) j' hj' e'
      have h2 := back i j' (i + 1) j (by omega) hj' hi hj e' e (by omega)
      omega
  have hi' : ∀ d i, i + d + 1 = n → ∀ j, j < n → g j = f i → j ≤ i := by
    intro d
    induction d with
    | zero => intro i h j hj _; omega
    | succ d ih =>
      intro i h j hj e
      obtain ⟨j', hj', e'⟩ := hin (i + 1) (by omega)
      have h1 := ih (i + 1) (by omega) j' hj' e'
      have h2 := back i j (i + 1) j' (by omega) hj (by omega) hj' e e' (by omega)
      omega
  intro i hi
  obtain ⟨j, hj, e⟩ := hin i hi
  have h1 := lo i hi j hj e
  have h2 := hi' (n - 1 - i) i (by omega) j hj e
  have : j = i := by omega
  subst this
  exact e.symm

theorem sorted_rises {rr : List ByteArray} (hs : SortedTo rr rr.length) (hd : Dist rr) : ∀ i j, i < j → j < rr.length → lessL (key rr i) (key rr j) = true := by
  intro i j hij hj
  cases e : lessL (key rr i) (key rr j) with
  | true => rfl
  | false => exact absurd (lessL_total _ _ e (hs i j hij hj)) (dist_keys hd hij hj)

/-- THE PLAIN LAW. -/
theorem sorted_law {ss tt rr qq : List ByteArray} (n : Nat) (hn : ss.length = n) (hm : tt.length = n) (hds : Dist ss) (hdt : Dist tt) (hr : rr.Perm ss) (hq : qq.Perm tt)
    (sr : SortedTo rr n) (sq : SortedTo qq n) : allS ss tt = eqTo rr qq n := by
  have lr : rr.length = n := by rw [hr.length_eq, hn]
  have lq : qq.length = n := by rw [hq.length_eq, hm]
  rw [Bool.eq_iff_iff, allS_iff, eqTo_iff]
  constructor
  · intro h
    refine rising (key rr) (key qq) n ?_ ?_ ?_
    · have := sorted_rises (rr := rr) (by rw [lr]; exact sr) (dist_perm hr hds); rw [lr] at this; exact this
    · have := sorted_rises (rr := qq) (by rw [lq]; exact sq) (dist_perm hq hdt); rw [lq] at this; exact this
    · intro i hi
      obtain ⟨s, hs, hk⟩ := key_mem (rr := rr) (i := i) (by omega)
      obtain ⟨t, ht, hkt⟩ := h s ((hr.mem_iff).1 hs)
      obtain ⟨j, hj, hkj⟩ := mem_key ((hq.mem_iff).2 ht)
      exact ⟨j, by omega, by rw [hkj, hkt, hk]⟩
  · intro h s hs
    obtain ⟨i, hi, hk⟩ := mem_key ((hr.mem_iff).2 hs)
    obtain ⟨t, ht, hkt⟩ := key_mem (rr := qq) (i := i) (by omega)
    exact ⟨t, (hq.mem_iff).1 ht, by rw [hkt, ← h i (by omega), hk]⟩
end Go.Proofs.Qxb6000910a
