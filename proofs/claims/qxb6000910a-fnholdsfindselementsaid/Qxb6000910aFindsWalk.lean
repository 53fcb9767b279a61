/-
  FnHoldsFindsElement: the walk.
-/
import Derived.Test.Qxb6000910aStrs
namespace Go.Proofs.Qxb6000910a
open Go.RowKit

theorem hasS_self (ss : List ByteArray) (k : Nat) (h : k < ss.length) : hasS ss (ss.getD k ByteArray.empty) = true :=
  hasS_hit ss _ k h (by simp)

set_option maxHeartbeats 400000 in
theorem finds_walk (a : Option Addr) (len cap : Nat) (ss : List ByteArray) (i : Int) (w : World) (hs : Strs w a len ss) :
    Calls Try.prog 3 #[.slice a len cap, .int .i64 i] w fun e w' => e = .returned (.bool true) ∧ Below w.heap.size w w' := by
  have hmax := hs.2.1
  unfold maxLen at hmax
  go_enter Try.func3, Try.ntmps3
  go_wp2_with (first
    | (go_at_call 11; refine (guard11_any _ _ _ ss _ _ hs).mono ?_; rintro e w' ⟨⟨b, rfl⟩, rfl⟩)
    | (go_at_call 12; refine (bytes_any _ _ _ ss _ hs).mono ?_; rintro e w' ⟨⟨n, rfl⟩, rfl⟩)
    | fail)
  all_goals first | (go_ret; exact ⟨rfl, Below.refl _ _⟩) | skip
  have hl : (len : Int) ≤ 65536 := by assumption
  have hi : 0 ≤ i ∧ i < (len : Int) := by assumption
  obtain ⟨k, rfl⟩ : ∃ k : Nat, i = k := ⟨i.toNat, by omega⟩
  refine (clone_any a len cap ss _ hs (by omega)).mono ?_
  rintro e w1 ⟨a', cap', rfl, hs1, _, hb1⟩
  have hs2 := hs1
  obtain ⟨hlen, _, h0 | ⟨b', off', rfl, hc⟩⟩ := hs1
  · omega
  have hck := hc k (by omega)
  obtain ⟨s, hse⟩ : ∃ s, s = ss.getD k ByteArray.empty := ⟨_, rfl⟩
  rw [← hse] at hck
  have HS : Hid (s = ss.getD k ByteArray.empty) := hse
  clear hse hc
  have hh : hasS ss s = true := by rw [HS.out]; exact hasS_self ss k (by omega)
  go_wp2_with (go_at_call 14; refine (zzholds_any _ _ _ ss _ _ hs2).mono ?_; rintro e w' ⟨rfl, rfl⟩)
  go_ret
  exact ⟨rfl, hb1⟩
end Go.Proofs.Qxb6000910a
