/-
  appendEscape onto nil: the walk.
-/
import Derived.Test.Qxb6001176aRows
import Derived.WalkKit
import Derived.WalkSpells
import Derived.WalkLawsBesides
import Derived.Deep.RegionLawGrows
namespace Go.Proofs.Qxb6001176a
open Go.RowKit

theorem and15 (c : Int) (h0 : 0 ≤ c) (h1 : c ≤ 255) : bits .and .u8 c 15 = c % 16 := by
  have h : ∀ n : Fin 256, bits .and .u8 (n.val : Int) 15 = (n.val : Int) % 16 := by decide +kernel
  have := h ⟨c.toNat, by omega⟩
  rw [show ((c.toNat : Nat) : Int) = c by omega] at this
  exact this

/-- The sign of a hexadecimal digit. -/
def hexd (x : Int) : Int := if x < 10 then 48 + x else 87 + x

theorem index_hex (x : Int) (h0 : 0 ≤ x) (h1 : x ≤ 15) (w : World) :
    (Instr.index 9 (.string ⟨#[48, 49, 50, 51, 52, 53, 54, 55, 56, 57, 97, 98, 99, 100, 101, 102]⟩) (.int .u8 x)).run Try.prog w = .ok (.int .u8 (hexd x)) w := by
  have h : ∀ n : Fin 16, (Instr.index 9 (.string ⟨#[48, 49, 50, 51, 52, 53, 54, 55, 56, 57, 97, 98, 99, 100, 101, 102]⟩) (.int .u8 (n.val : Int))).run Try.prog w = .ok (.int .u8 (hexd (n.val : Int))) w := by
    intro n
    match n with
    | ⟨0, _⟩ => rfl
    | ⟨1, _⟩ => rfl
    | ⟨2, _⟩ => rfl
    | ⟨3, _⟩ => rfl
    | ⟨4, _⟩ => rfl
    | ⟨5, _⟩ => rfl
    | ⟨6, _⟩ => rfl
    | ⟨7, _⟩ => rfl
    | ⟨8, _⟩ => rfl
    | ⟨9, _⟩ => rfl
    | ⟨10, _⟩ => rfl
    | ⟨11, _⟩ => rfl
    | ⟨12, _⟩ => rfl
    | ⟨13, _⟩ => rfl
    | ⟨14, _⟩ => rfl
    | ⟨15, _⟩ => rfl
    | ⟨n + 16, h⟩ => omega
  have := h ⟨x.toNat, by omega⟩
  simp only [show ((x.toNat : Nat) : Int) = x by omega] at this
  exact this

/-- The slice value v leads to the bytes bs, in w. -/
def Bytes (w : World) (v : Value) (bs : List Int) : Prop :=
  ∃ g cap, v = .slice (some ⟨g, 0, none⟩) bs.length cap ∧ ∀ j, j < bs.length → w.cell? ⟨g, j, none⟩ = some (.int .u8 (bs.getD j 0))

theorem bytes_new (w : World) (n : Nat) (hn : n = w.heap.size) (bs : List Int) (zs : Array Value) (cap : Nat) :
    Bytes (w.alloc (.cells ((bs.map (Value.int .u8)).toArray ++ zs) 5)) (.slice (some ⟨n, 0, none⟩) bs.length cap) bs := by
  refine ⟨_, _, rfl, fun j hj => ?_⟩
  rw [World.cell?_alloc_at _ _ _ _ hn]
  simp [List.getD, hj, Array.getElem?_append]

/-- Draws turn no byte. -/
theorem Bytes.drew {w : World} {v : Value} {bs : List Int} (h : Bytes w v bs) : Bytes w.drew v bs := h

/-- The bytes of the escape of c. -/
def esc (c : Int) : List Int :=
  if c = 34 ∨ c = 92 then [92, c] else if c = 8 then [92, 98] else if c = 12 then [92, 102] else if c = 10 then [92, 110] else if c = 13 then [92, 114] else if c = 9 then [92, 116]
  else [92, 117, 48, 48, hexd (c / 16), hexd (c % 16)]

set_option maxHeartbeats 400000 in
theorem esc_else (c : Int) (hc0 : 0 ≤ c) (hc1 : c ≤ 255) (h1 : ¬ c = 34) (h2 : ¬ c = 92) (h3 : ¬ c = 8) (h4 : ¬ c = 12) (h5 : ¬ c = 10) (h6 : ¬ c = 13) (h7 : ¬ c = 9) (w : World) :
    Calls Try.prog 17 #[.slice none 0 0, .int .u8 c] w fun e w' => ∃ v, e = .returned v ∧ Bytes w' v [92, 117, 48, 48, hexd (c / 16), hexd (c % 16)] ∧ Below w.heap.size w w' := by
  have hb := and15 c hc0 hc1
  have i1 := index_hex (c / 16) (by omega) (by omega)
  have i2 := index_hex (c % 16) (by omega) (by omega)
  have hf : ¬ (281474976710656 < Builtin.nextslicecap 6 0 * Try.t5.bytes) := by decide
  go_enter Try.func17, Try.ntmps17
  go_wp2
  go_region
  all_goals go_wp2
  go_ret
  exact ⟨_, rfl, (bytes_new (w.alloc _) _ (by simp) [92, 117, 48, 48, hexd (c / 16), hexd (c % 16)] _ _).drew.drew, (((Below.refl _ _).alloc (Nat.le_refl _) _).alloc (by simp) _).drew.drew⟩

set_option maxHeartbeats 400000 in
theorem esc_self (c : Int) (h : c = 34 ∨ c = 92) (w : World) :
    Calls Try.prog 17 #[.slice none 0 0, .int .u8 c] w fun e w' => ∃ v, e = .returned v ∧ Bytes w' v [92, c] ∧ Below w.heap.size w w' := by
  have hf : ¬ (281474976710656 < Builtin.nextslicecap 2 0 * Try.t5.bytes) := by decide
  rcases h with rfl | rfl
  · go_enter Try.func17, Try.ntmps17
    go_wp2
    go_ret
    exact ⟨_, rfl, (bytes_new (w.alloc _) _ (by simp) [92, 34] _ _).drew, (((Below.refl _ _).alloc (Nat.le_refl _) _).alloc (by simp) _).drew⟩
  · go_enter Try.func17, Try.ntmps17
    go_wp2
    go_ret
    exact ⟨_, rfl, (bytes_new (w.alloc _) _ (by simp) [92, 92] _ _).drew, (((Below.refl _ _).alloc (Nat.le_refl _) _).alloc (by simp) _).drew⟩

set_option maxHeartbeats 400000 in
theorem esc_8 (w : World) :
    Calls Try.prog 17 #[.slice none 0 0, .int .u8 8] w fun e w' => ∃ v, e = .returned v ∧ Bytes w' v [92, 98] ∧ Below w.heap.size w w' := by
  have hf : ¬ (281474976710656 < Builtin.nextslicecap 2 0 * Try.t5.bytes) := by decide
  go_enter Try.func17, Try.ntmps17
  go_wp2
  go_ret
  exact ⟨_, rfl, (bytes_new w _ rfl [92, 98] _ _).drew, ((Below.refl _ _).alloc (Nat.le_refl _) _).drew⟩

set_option maxHeartbeats 400000 in
theorem esc_12 (w : World) :
    Calls Try.prog 17 #[.slice none 0 0, .int .u8 12] w fun e w' => ∃ v, e = .returned v ∧ Bytes w' v [92, 102] ∧ Below w.heap.size w w' := by
  have hf : ¬ (281474976710656 < Builtin.nextslicecap 2 0 * Try.t5.bytes) := by decide
  go_enter Try.func17, Try.ntmps17
  go_wp2
  go_ret
  exact ⟨_, rfl, (bytes_new w _ rfl [92, 102] _ _).drew, ((Below.refl _ _).alloc (Nat.le_refl _) _).drew⟩

set_option maxHeartbeats 400000 in
theorem esc_10 (w : World) :
    Calls Try.prog 17 #[.slice none 0 0, .int .u8 10] w fun e w' => ∃ v, e = .returned v ∧ Bytes w' v [92, 110] ∧ Below w.heap.size w w' := by
  have hf : ¬ (281474976710656 < Builtin.nextslicecap 2 0 * Try.t5.bytes) := by decide
  go_enter Try.func17, Try.ntmps17
  go_wp2
  go_ret
  exact ⟨_, rfl, (bytes_new w _ rfl [92, 110] _ _).drew, ((Below.refl _ _).alloc (Nat.le_refl _) _).drew⟩

set_option maxHeartbeats 400000 in
theorem esc_13 (w : World) :
    Calls Try.prog 17 #[.slice none 0 0, .int .u8 13] w fun e w' => ∃ v, e = .returned v ∧ Bytes w' v [92, 114] ∧ Below w.heap.size w w' := by
  have hf : ¬ (281474976710656 < Builtin.nextslicecap 2 0 * Try.t5.bytes) := by decide
  go_enter Try.func17, Try.ntmps17
  go_wp2
  go_ret
  exact ⟨_, rfl, (bytes_new w _ rfl [92, 114] _ _).drew, ((Below.refl _ _).alloc (Nat.le_refl _) _).drew⟩

set_option maxHeartbeats 400000 in
theorem esc_9 (w : World) :
    Calls Try.prog 17 #[.slice none 0 0, .int .u8 9] w fun e w' => ∃ v, e = .returned v ∧ Bytes w' v [92, 116] ∧ Below w.heap.size w w' := by
  have hf : ¬ (281474976710656 < Builtin.nextslicecap 2 0 * Try.t5.bytes) := by decide
  go_enter Try.func17, Try.ntmps17
  go_wp2
  go_ret
  exact ⟨_, rfl, (bytes_new w _ rfl [92, 116] _ _).drew, ((Below.refl _ _).alloc (Nat.le_refl _) _).drew⟩

/-- appendEscape(nil, c), for every byte c. -/
theorem esc_any (c : Int) (hc0 : 0 ≤ c) (hc1 : c ≤ 255) (w : World) :
    Calls Try.prog 17 #[.slice none 0 0, .int .u8 c] w fun e w' => ∃ v, e = .returned v ∧ Bytes w' v (esc c) ∧ Below w.heap.size w w' := by
  unfold esc
  by_cases h1 : c = 34 ∨ c = 92
  · rw [if_pos h1]; exact esc_self c h1 w
  rw [if_neg h1]
  by_cases h2 : c = 8
  · rw [if_pos h2]; subst h2; exact esc_8 w
  rw [if_neg h2]
  by_cases h3 : c = 12
  · rw [if_pos h3]; subst h3; exact esc_12 w
  rw [if_neg h3]
  by_cases h4 : c = 10
  · rw [if_pos h4]; subst h4; exact esc_10 w
  rw [if_neg h4]
  by_cases h5 : c = 13
  · rw [if_pos h5]; subst h5; exact esc_13 w
  rw [if_neg h5]
  by_cases h6 : c = 9
  · rw [if_pos h6]; subst h6; exact esc_9 w
  rw [if_neg h6]
  exact esc_else c hc0 hc1 (by omega) (by omega) h2 h3 h4 h5 h6 w

theorem hexd_bounds (x : Int) (h0 : 0 ≤ x) (h1 : x ≤ 15) : 32 ≤ hexd x ∧ hexd x ≤ 126 := by
  unfold hexd
  split <;> omega

/-- Is c one of the seven bytes that have a short escape? -/
def shortC (c : Int) : Prop := c = 34 ∨ c = 92 ∨ c = 8 ∨ c = 12 ∨ c = 10 ∨ c = 13 ∨ c = 9

/-- What the law asks of the escape's bytes. -/
theorem esc_law (c : Int) (hc0 : 0 ≤ c) (hc1 : c ≤ 255) :
    (∃ r, esc c = 92 :: r) ∧ (∀ j, j < (esc c).length → 32 ≤ (esc c).getD j 0 ∧ (esc c).getD j 0 ≤ 126) ∧ (shortC c → (esc c).length = 2) ∧ (¬ shortC c → (esc c).length = 6) := by
  have g1 := hexd_bounds (c / 16) (by omega) (by omega)
  have g2 := hexd_bounds (c % 16) (by omega) (by omega)
  have two : ∀ x : Int, 32 ≤ x → x ≤ 126 → ∀ j, j < [92, x].length → 32 ≤ [92, x].getD j 0 ∧ [92, x].getD j 0 ≤ 126 := by
    intro x h h' j hj
    match j, hj with
    | 0, _ => simp
    | 1, _ => exact ⟨h, h'⟩
  unfold esc shortC
  by_cases h1 : c = 34 ∨ c = 92
  · rw [if_pos h1]; exact ⟨⟨_, rfl⟩, two c (by omega) (by omega), fun _ => rfl, fun h => by omega⟩
  rw [if_neg h1]
  by_cases h2 : c = 8
  · rw [if_pos h2]; exact ⟨⟨_, rfl⟩, two _ (by omega) (by omega), fun _ => rfl, fun h => by omega⟩
  rw [if_neg h2]
  by_cases h3 : c = 12
  · rw [if_pos h3]; exact ⟨⟨_, rfl⟩, two _ (by omega) (by omega), fun _ => rfl, fun h => by omega⟩
  rw [if_neg h3]
  by_cases h4 : c = 10
  · rw [if_pos h4]; exact ⟨⟨_, rfl⟩, two _ (by omega) (by omega), fun _ => rfl, fun h => by omega⟩
  rw [if_neg h4]
  by_cases h5 : c = 13
  · rw [if_pos h5]; exact ⟨⟨_, rfl⟩, two _ (by omega) (by omega), fun _ => rfl, fun h => by omega⟩
  rw [if_neg h5]
  by_cases h6 : c = 9
  · rw [if_pos h6]; exact ⟨⟨_, rfl⟩, two _ (by omega) (by omega), fun _ => rfl, fun h => by omega⟩
  rw [if_neg h6]
  refine ⟨⟨_, rfl⟩, ?_, fun h => by omega, fun _ => rfl⟩
  intro j hj
  match j, hj with
  | 0, _ => simp
  | 1, _ => simp
  | 2, _ => simp
  | 3, _ => simp
  | 4, _ => exact g1
  | 5, _ => exact g2

set_option maxHeartbeats 400000 in
/-- The shim. -/
theorem zzesc_any (c : Int) (hc0 : 0 ≤ c) (hc1 : c ≤ 255) (w : World) :
    Calls Try.prog 14 #[.slice none 0 0, .int .u8 c] w fun e w' => ∃ v, e = .returned v ∧ Bytes w' v (esc c) ∧ Below w.heap.size w w' := by
  go_enter Try.func14, Try.ntmps14
  go_wp2_with (go_at_call 17; refine (esc_any _ hc0 hc1 _).mono ?_; rintro e w1 ⟨v, rfl, hv, hb⟩)
  go_ret
  exact ⟨v, rfl, hv, hb⟩

/-- The shim's answer, in the form that the law's walk wants. -/
theorem zzesc_len (c : Int) (hc0 : 0 ≤ c) (hc1 : c ≤ 255) (w : World) (n : Nat) (hn : (esc c).length = n) :
    Calls Try.prog 14 #[.slice none 0 0, .int .u8 c] w fun e w' => ∃ g cap, ∃ z : Nat → Int, e = .returned (.slice (some ⟨g, 0, none⟩) n cap) ∧ w'.cell? ⟨g, 0, none⟩ = some (.int .u8 92) ∧
      (∀ j, j < n → w'.cell? ⟨g, j, none⟩ = some (.int .u8 (z j)) ∧ 32 ≤ z j ∧ z j ≤ 126) ∧ Below w.heap.size w w' := by
  refine (zzesc_any c hc0 hc1 w).mono ?_
  rintro e w1 ⟨v, rfl, ⟨g, cap, rfl, hcell⟩, hb⟩
  obtain ⟨⟨r, hr⟩, hbd, _, _⟩ := esc_law c hc0 hc1
  subst hn
  refine ⟨g, cap, fun j => (esc c).getD j 0, rfl, ?_, fun j hj => ⟨hcell j hj, hbd j hj⟩, hb⟩
  have := hcell 0 (by rw [hr]; simp)
  rw [hr] at this
  exact this

set_option maxHeartbeats 400000 in
theorem esc_walk_34 (w : World) : Calls Try.prog 6 #[.int .u8 34] w fun e w' => e = .returned (.bool true) ∧ Below w.heap.size w w' := by
  have hlen := (esc_law 34 (by omega) (by omega)).2.2.1 (by unfold shortC; omega)
  have HL : Hid ((esc 34).length = 2) := hlen
  clear hlen
  go_enter Try.func6, Try.ntmps6
  go_wp2_with (go_at_call 14; refine (zzesc_len _ (by omega) (by omega) _ 2 HL.out).mono ?_; rintro e w1 ⟨g, cap, z, rfl, h92, hz, hb⟩)
  have HZ : Hid (∀ j, j < 2 → w1.cell? ⟨g, j, none⟩ = some (.int .u8 (z j)) ∧ 32 ≤ z j ∧ z j ≤ 126) := hz
  clear hz
  go_loop [4] (fun i => ∃ k : Nat, k ≤ 2 ∧ i = .int .i64 k) (fun i => 2 - (intOf i).toNat)
  case atStart => exact ⟨0, Nat.zero_le _, rfl⟩
  case round =>
    obtain ⟨k, hk, rfl⟩ := hrel
    by_cases hlt : k < 2
    · obtain ⟨hck, hz0, hz1⟩ := HZ.out k hlt
      go_wp2
      go_round
      case rel => exact ⟨k + 1, by omega, by go_num⟩
      case measure => simp [intOf]; omega
    · go_wp2
      go_ret
      exact ⟨rfl, hb⟩

set_option maxHeartbeats 400000 in
theorem esc_walk_92 (w : World) : Calls Try.prog 6 #[.int .u8 92] w fun e w' => e = .returned (.bool true) ∧ Below w.heap.size w w' := by
  have hlen := (esc_law 92 (by omega) (by omega)).2.2.1 (by unfold shortC; omega)
  have HL : Hid ((esc 92).length = 2) := hlen
  clear hlen
  go_enter Try.func6, Try.ntmps6
  go_wp2_with (go_at_call 14; refine (zzesc_len _ (by omega) (by omega) _ 2 HL.out).mono ?_; rintro e w1 ⟨g, cap, z, rfl, h92, hz, hb⟩)
  have HZ : Hid (∀ j, j < 2 → w1.cell? ⟨g, j, none⟩ = some (.int .u8 (z j)) ∧ 32 ≤ z j ∧ z j ≤ 126) := hz
  clear hz
  go_loop [4] (fun i => ∃ k : Nat, k ≤ 2 ∧ i = .int .i64 k) (fun i => 2 - (intOf i).toNat)
  case atStart => exact ⟨0, Nat.zero_le _, rfl⟩
  case round =>
    obtain ⟨k, hk, rfl⟩ := hrel
    by_cases hlt : k < 2
    · obtain ⟨hck, hz0, hz1⟩ := HZ.out k hlt
      go_wp2
      go_round
      case rel => exact ⟨k + 1, by omega, by go_num⟩
      case measure => simp [intOf]; omega
    · go_wp2
      go_ret
      exact ⟨rfl, hb⟩

set_option maxHeartbeats 400000 in
theorem esc_walk_8 (w : World) : Calls Try.prog 6 #[.int .u8 8] w fun e w' => e = .returned (.bool true) ∧ Below w.heap.size w w' := by
  have hlen := (esc_law 8 (by omega) (by omega)).2.2.1 (by unfold shortC; omega)
  have HL : Hid ((esc 8).length = 2) := hlen
  clear hlen
  go_enter Try.func6, Try.ntmps6
  go_wp2_with (go_at_call 14; refine (zzesc_len _ (by omega) (by omega) _ 2 HL.out).mono ?_; rintro e w1 ⟨g, cap, z, rfl, h92, hz, hb⟩)
  have HZ : Hid (∀ j, j < 2 → w1.cell? ⟨g, j, none⟩ = some (.int .u8 (z j)) ∧ 32 ≤ z j ∧ z j ≤ 126) := hz
  clear hz
  go_loop [4] (fun i => ∃ k : Nat, k ≤ 2 ∧ i = .int .i64 k) (fun i => 2 - (intOf i).toNat)
  case atStart => exact ⟨0, Nat.zero_le _, rfl⟩
  case round =>
    obtain ⟨k, hk, rfl⟩ := hrel
    by_cases hlt : k < 2
    · obtain ⟨hck, hz0, hz1⟩ := HZ.out k hlt
      go_wp2
      go_round
      case rel => exact ⟨k + 1, by omega, by go_num⟩
      case measure => simp [intOf]; omega
    · go_wp2
      go_ret
      exact ⟨rfl, hb⟩

set_option maxHeartbeats 400000 in
theorem esc_walk_12 (w : World) : Calls Try.prog 6 #[.int .u8 12] w fun e w' => e = .returned (.bool true) ∧ Below w.heap.size w w' := by
  have hlen := (esc_law 12 (by omega) (by omega)).2.2.1 (by unfold shortC; omega)
  have HL : Hid ((esc 12).length = 2) := hlen
  clear hlen
  go_enter Try.func6, Try.ntmps6
  go_wp2_with (go_at_call 14; refine (zzesc_len _ (by omega) (by omega) _ 2 HL.out).mono ?_; rintro e w1 ⟨g, cap, z, rfl, h92, hz, hb⟩)
  have HZ : Hid (∀ j, j < 2 → w1.cell? ⟨g, j, none⟩ = some (.int .u8 (z j)) ∧ 32 ≤ z j ∧ z j ≤ 126) := hz
  clear hz
  go_loop [4] (fun i => ∃ k : Nat, k ≤ 2 ∧ i = .int .i64 k) (fun i => 2 - (intOf i).toNat)
  case atStart => exact ⟨0, Nat.zero_le _, rfl⟩
  case round =>
    obtain ⟨k, hk, rfl⟩ := hrel
    by_cases hlt : k < 2
    · obtain ⟨hck, hz0, hz1⟩ := HZ.out k hlt
      go_wp2
      go_round
      case rel => exact ⟨k + 1, by omega, by go_num⟩
      case measure => simp [intOf]; omega
    · go_wp2
      go_ret
      exact ⟨rfl, hb⟩

set_option maxHeartbeats 400000 in
theorem esc_walk_10 (w : World) : Calls Try.prog 6 #[.int .u8 10] w fun e w' => e = .returned (.bool true) ∧ Below w.heap.size w w' := by
  have hlen := (esc_law 10 (by omega) (by omega)).2.2.1 (by unfold shortC; omega)
  have HL : Hid ((esc 10).length = 2) := hlen
  clear hlen
  go_enter Try.func6, Try.ntmps6
  go_wp2_with (go_at_call 14; refine (zzesc_len _ (by omega) (by omega) _ 2 HL.out).mono ?_; rintro e w1 ⟨g, cap, z, rfl, h92, hz, hb⟩)
  have HZ : Hid (∀ j, j < 2 → w1.cell? ⟨g, j, none⟩ = some (.int .u8 (z j)) ∧ 32 ≤ z j ∧ z j ≤ 126) := hz
  clear hz
  go_loop [4] (fun i => ∃ k : Nat, k ≤ 2 ∧ i = .int .i64 k) (fun i => 2 - (intOf i).toNat)
  case atStart => exact ⟨0, Nat.zero_le _, rfl⟩
  case round =>
    obtain ⟨k, hk, rfl⟩ := hrel
    by_cases hlt : k < 2
    · obtain ⟨hck, hz0, hz1⟩ := HZ.out k hlt
      go_wp2
      go_round
      case rel => exact ⟨k + 1, by omega, by go_num⟩
      case measure => simp [intOf]; omega
    · go_wp2
      go_ret
      exact ⟨rfl, hb⟩

set_option maxHeartbeats 400000 in
theorem esc_walk_13 (w : World) : Calls Try.prog 6 #[.int .u8 13] w fun e w' => e = .returned (.bool true) ∧ Below w.heap.size w w' := by
  have hlen := (esc_law 13 (by omega) (by omega)).2.2.1 (by unfold shortC; omega)
  have HL : Hid ((esc 13).length = 2) := hlen
  clear hlen
  go_enter Try.func6, Try.ntmps6
  go_wp2_with (go_at_call 14; refine (zzesc_len _ (by omega) (by omega) _ 2 HL.out).mono ?_; rintro e w1 ⟨g, cap, z, rfl, h92, hz, hb⟩)
  have HZ : Hid (∀ j, j < 2 → w1.cell? ⟨g, j, none⟩ = some (.int .u8 (z j)) ∧ 32 ≤ z j ∧ z j ≤ 126) := hz
  clear hz
  go_loop [4] (fun i => ∃ k : Nat, k ≤ 2 ∧ i = .int .i64 k) (fun i => 2 - (intOf i).toNat)
  case atStart => exact ⟨0, Nat.zero_le _, rfl⟩
  case round =>
    obtain ⟨k, hk, rfl⟩ := hrel
    by_cases hlt : k < 2
    · obtain ⟨hck, hz0, hz1⟩ := HZ.out k hlt
      go_wp2
      go_round
      case rel => exact ⟨k + 1, by omega, by go_num⟩
      case measure => simp [intOf]; omega
    · go_wp2
      go_ret
      exact ⟨rfl, hb⟩

set_option maxHeartbeats 400000 in
theorem esc_walk_9 (w : World) : Calls Try.prog 6 #[.int .u8 9] w fun e w' => e = .returned (.bool true) ∧ Below w.heap.size w w' := by
  have hlen := (esc_law 9 (by omega) (by omega)).2.2.1 (by unfold shortC; omega)
  have HL : Hid ((esc 9).length = 2) := hlen
  clear hlen
  go_enter Try.func6, Try.ntmps6
  go_wp2_with (go_at_call 14; refine (zzesc_len _ (by omega) (by omega) _ 2 HL.out).mono ?_; rintro e w1 ⟨g, cap, z, rfl, h92, hz, hb⟩)
  have HZ : Hid (∀ j, j < 2 → w1.cell? ⟨g, j, none⟩ = some (.int .u8 (z j)) ∧ 32 ≤ z j ∧ z j ≤ 126) := hz
  clear hz
  go_loop [4] (fun i => ∃ k : Nat, k ≤ 2 ∧ i = .int .i64 k) (fun i => 2 - (intOf i).toNat)
  case atStart => exact ⟨0, Nat.zero_le _, rfl⟩
  case round =>
    obtain ⟨k, hk, rfl⟩ := hrel
    by_cases hlt : k < 2
    · obtain ⟨hck, hz0, hz1⟩ := HZ.out k hlt
      go_wp2
      go_round
      case rel => exact ⟨k + 1, by omega, by go_num⟩
      case measure => simp [intOf]; omega
    · go_wp2
      go_ret
      exact ⟨rfl, hb⟩

set_option maxHeartbeats 400000 in
theorem esc_walk_else (c : Int) (hc0 : 0 ≤ c) (hc1 : c ≤ 255) (h : ¬ shortC c) (w : World) : Calls Try.prog 6 #[.int .u8 c] w fun e w' => e = .returned (.bool true) ∧ Below w.heap.size w w' := by
  have hlen := (esc_law c hc0 hc1).2.2.2 h
  have HL : Hid ((esc c).length = 6) := hlen
  clear hlen
  unfold shortC at h
  have h1 : (c == 34) = false := beq_false_of_ne (by omega)
  have h2 : (c == 92) = false := beq_false_of_ne (by omega)
  have h3 : (c == 8) = false := beq_false_of_ne (by omega)
  have h4 : (c == 12) = false := beq_false_of_ne (by omega)
  have h5 : (c == 10) = false := beq_false_of_ne (by omega)
  have h6 : (c == 13) = false := beq_false_of_ne (by omega)
  have h7 : (c == 9) = false := beq_false_of_ne (by omega)
  clear h
  go_enter Try.func6, Try.ntmps6
  go_wp2_with (go_at_call 14; refine (zzesc_len _ hc0 hc1 _ 6 HL.out).mono ?_; rintro e w1 ⟨g, cap, z, rfl, h92, hz, hb⟩)
  have HZ : Hid (∀ j, j < 6 → w1.cell? ⟨g, j, none⟩ = some (.int .u8 (z j)) ∧ 32 ≤ z j ∧ z j ≤ 126) := hz
  clear hz
  go_loop [4] (fun i => ∃ k : Nat, k ≤ 6 ∧ i = .int .i64 k) (fun i => 6 - (intOf i).toNat)
  case atStart => exact ⟨0, Nat.zero_le _, rfl⟩
  case round =>
    obtain ⟨k, hk, rfl⟩ := hrel
    by_cases hlt : k < 6
    · obtain ⟨hck, hz0, hz1⟩ := HZ.out k hlt
      go_wp2
      go_round
      case rel => exact ⟨k + 1, by omega, by go_num⟩
      case measure => simp [intOf]; omega
    · go_wp2
      go_ret
      exact ⟨rfl, hb⟩

theorem esc_walk (c : Int) (hc0 : 0 ≤ c) (hc1 : c ≤ 255) (w : World) : Calls Try.prog 6 #[.int .u8 c] w fun e w' => e = .returned (.bool true) ∧ Below w.heap.size w w' := by
  by_cases h : shortC c
  · unfold shortC at h
    rcases h with rfl | rfl | rfl | rfl | rfl | rfl | rfl
    · exact esc_walk_34 w
    · exact esc_walk_92 w
    · exact esc_walk_8 w
    · exact esc_walk_12 w
    · exact esc_walk_10 w
    · exact esc_walk_13 w
    · exact esc_walk_9 w
  · exact esc_walk_else c hc0 hc1 h w
end Go.Proofs.Qxb6001176a
