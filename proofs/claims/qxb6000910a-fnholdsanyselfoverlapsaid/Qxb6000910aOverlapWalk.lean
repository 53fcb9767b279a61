/-
  FnHoldsAnySelfOverlap: the walk.
-/
import Derived.Test.Qxb6000910aStrs
namespace Go.Proofs.Qxb6000910a
open Go.RowKit

set_option maxHeartbeats 400000 in
/-- A guard on length: some bool. -/
theorem guard21_any (a : Option Addr) (len cap : Nat) (ss : List ByteArray) (w : World) (hs : Strs w a len ss) :
    Calls Try.prog 21 #[.slice a len cap] w fun e w' => RetBool e ∧ w' = w := by
  obtain ⟨hlen, hmax, hs⟩ := hs
  unfold maxLen at hmax
  go_enter Try.func21, Try.ntmps21
  go_wp2
  · go_ret
    exact ⟨⟨_, rfl⟩, rfl⟩
  go_loop [3, 4] (fun n i => ∃ (k : Nat) (z : Int), k ≤ len ∧ i = .int .i64 k ∧ n = .int .i64 z) (fun _ i => len - (intOf i).toNat)
  case atStart => exact ⟨0, _, Nat.zero_le _, rfl, rfl⟩
  case round =>
    obtain ⟨k, z, hk, rfl, rfl⟩ := hrel
    by_cases hlt : k < len
    · rcases hs with h0 | ⟨b, off, rfl, hc⟩
      · omega
      have hck := hc k hlt
      obtain ⟨s, hse⟩ : ∃ s, s = ss.getD k ByteArray.empty := ⟨_, rfl⟩
      rw [← hse] at hck
      clear hse hc
      go_wp2
      · go_ret
        exact ⟨⟨_, rfl⟩, rfl⟩
      · go_ret
        exact ⟨⟨_, rfl⟩, rfl⟩
      · go_round
        case rel => exact ⟨k + 1, _, by omega, by go_num, rfl⟩
        case measure => simp [intOf]; omega
    · go_wp2
      go_ret
      exact ⟨⟨_, rfl⟩, rfl⟩

/-- Is one of tt among ss? -/
def anyS (ss tt : List ByteArray) : Bool := tt.any fun t => hasS ss t

theorem anyS_snoc (ss tt : List ByteArray) (k : Nat) (h : k < tt.length) :
    anyS ss (tt.take (k + 1)) = (anyS ss (tt.take k) || hasS ss (tt.getD k ByteArray.empty)) := by
  unfold anyS
  rw [List.take_succ_eq_append_getElem h, List.any_append]
  simp [List.getD, h]

theorem anyS_hit (ss tt : List ByteArray) (k : Nat) (h : k < tt.length) (hx : hasS ss (tt.getD k ByteArray.empty) = true) : anyS ss tt = true := by
  unfold anyS
  rw [List.any_eq_true]
  refine ⟨tt[k], List.getElem_mem h, ?_⟩
  simpa [List.getD, h] using hx

theorem anyS_self (ss : List ByteArray) : anyS ss ss = decide (0 < (ss.length : Int)) := by
  cases ss with
  | nil => rfl
  | cons s r => rw [anyS_hit (s :: r) (s :: r) 0 (by simp) (hasS_hit _ _ 0 (by simp) (by simp))]; simp

set_option maxHeartbeats 400000 in
/-- terms.holdsAny: it only reads. -/
theorem holdsAny_any (a b : Option Addr) (len cap len' cap' : Nat) (ss tt : List ByteArray) (w : World) (hs : Strs w a len ss) (ht : Strs w b len' tt) :
    Calls Try.prog 29 #[.slice a len cap, .slice b len' cap'] w fun e w' => e = .returned (.bool (anyS ss tt)) ∧ w' = w := by
  obtain ⟨hlen, hmax, ht⟩ := ht
  unfold maxLen at hmax
  go_enter Try.func29, Try.ntmps29
  go_wp2
  go_loop [9] (fun i => ∃ k : Nat, k ≤ len' ∧ i = .int .i64 k ∧ anyS ss (tt.take k) = false) (fun i => len' - (intOf i).toNat)
  case atStart => exact ⟨0, Nat.zero_le _, rfl, rfl⟩
  case round =>
    obtain ⟨k, hk, rfl, hno⟩ := hrel
    have HN : Hid (anyS ss (tt.take k) = false) := hno
    clear hno
    by_cases hlt : k < len'
    · rcases ht with h0 | ⟨b, off, rfl, hc⟩
      · omega
      have hck := hc k hlt
      obtain ⟨s, hse⟩ : ∃ s, s = tt.getD k ByteArray.empty := ⟨_, rfl⟩
      rw [← hse] at hck
      have HS : Hid (s = tt.getD k ByteArray.empty) := hse
      clear hse hc
      go_wp2_with (go_at_call 28; refine (holds_any _ _ _ ss _ _ hs).mono ?_; rintro e w' ⟨rfl, rfl⟩)
      · go_ret
        exact ⟨ret_bool (anyS_hit ss tt k (by omega) (by rw [← HS.out]; assumption)).symm, rfl⟩
      · go_round
        case rel => exact ⟨k + 1, by omega, by go_num, by rw [anyS_snoc ss tt k (by omega), HN.out, ← HS.out, Bool.false_or]; assumption⟩
        case measure => simp [intOf]; omega
    · go_wp2
      go_ret
      exact ⟨ret_bool (by rw [← HN.out, List.take_of_length_le (by omega)]), rfl⟩

set_option maxHeartbeats 400000 in
/-- The shim. -/
theorem zzholdsAny_any (a b : Option Addr) (len cap len' cap' : Nat) (ss tt : List ByteArray) (w : World) (hs : Strs w a len ss) (ht : Strs w b len' tt) :
    Calls Try.prog 20 #[.slice a len cap, .slice b len' cap'] w fun e w' => e = .returned (.bool (anyS ss tt)) ∧ w' = w := by
  go_enter Try.func20, Try.ntmps20
  go_wp2_with (go_at_call 29; refine (holdsAny_any _ _ _ _ _ _ ss tt _ hs ht).mono ?_; rintro e w' ⟨rfl, rfl⟩)
  go_ret
  exact ⟨rfl, rfl⟩

set_option maxHeartbeats 400000 in
theorem overlap_walk (a : Option Addr) (len cap : Nat) (ss : List ByteArray) (w : World) (hs : Strs w a len ss) :
    Calls Try.prog 7 #[.slice a len cap] w fun e w' => e = .returned (.bool true) ∧ Below w.heap.size w w' := by
  have hmax := hs.2.1
  have hlen := hs.1
  unfold maxLen at hmax
  go_enter Try.func7, Try.ntmps7
  go_wp2_with (first
    | (go_at_call 21; refine (guard21_any _ _ _ ss _ hs).mono ?_; rintro e w' ⟨⟨b, rfl⟩, rfl⟩)
    | (go_at_call 12; refine (bytes_any _ _ _ ss _ hs).mono ?_; rintro e w' ⟨⟨n, rfl⟩, rfl⟩)
    | fail)
  all_goals first | (go_ret; exact ⟨rfl, Below.refl _ _⟩) | skip
  have hl : (len : Int) ≤ 4096 := by assumption
  refine (clone_any a len cap ss _ hs (by omega)).mono ?_
  rintro e w1 ⟨a', cap', rfl, hs1, _, hb1⟩
  go_wp2_with (go_at_call 20; refine (zzholdsAny_any _ _ _ _ _ _ ss ss _ hs1 hs1).mono ?_; rintro e w' ⟨rfl, rfl⟩)
  go_ret
  exact ⟨ret_bool (by rw [anyS_self, hlen]; simp), hb1⟩
end Go.Proofs.Qxb6000910a
