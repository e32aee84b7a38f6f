/- the two size tests that the programs lay ahead: they return, and leave the world as it was -/
import Derived.Test.Qxb6002652aBase
namespace Go.Proofs.Qxb6002652a.Wt
open Go.RowKit
set_option linter.unusedVariables false

set_option maxHeartbeats 2000000 in
theorem zz6_any (a0 a1 a2 : Option Addr) (l0 l1 l2 c0 c1 c2 : Nat) (T U : Nat → ByteArray) (typ sub : ByteArray) (q0 : Nat) (w : World)
    (h0 : Row (S T) w a0 l0) (h1 : Row (S U) w a1 l1) (h2 : l2 ≤ 9223372036854775807) (ht : typ.size ≤ 9223372036854775807) (hs : sub.size ≤ 9223372036854775807) :
    Calls Try.prog 6 #[.slice a0 l0 c0, .slice a1 l1 c1, .slice a2 l2 c2, .string typ, .string sub, .float .f64 q0] w fun e w' => RB e True ∧ w' = w := by
  have hl0 := h0.1
  have hl1 := h1.1
  have R0 : Hid (Row (S T) w a0 l0) := h0
  have R1 : Hid (Row (S U) w a1 l1) := h1
  clear h0 h1
  go_enter Try.func6, Try.ntmps6
  go_wp2
  all_goals first | (go_ret; exact ⟨RB.of trivial, rfl⟩) | skip
  go_loop [13, 14] (fun n i => ∃ (x : Int) (k : Nat), k ≤ l0 ∧ i = .int .i64 k ∧ n = .int .i64 x) (fun _ i => l0 - (intOf i).toNat)
  case atStart => exact ⟨_, 0, by omega, rfl, rfl⟩
  case round =>
    obtain ⟨x, k, hk, rfl, rfl⟩ := hrel
    by_cases hlt : k < l0
    · obtain ⟨b, o, rfl, hck⟩ := R0.out.at hlt
      unfold S at hck
      go_wp2
      all_goals first | (go_ret; exact ⟨RB.of trivial, rfl⟩) | skip
      go_round
      case rel => exact ⟨_, k + 1, by omega, by go_num, rfl⟩
      case measure => simp [intOf]; omega
    · go_wp2
      all_goals first | (go_ret; exact ⟨RB.of trivial, rfl⟩) | skip
      go_loop [13, 15] (fun n i => ∃ (x : Int) (k : Nat), k ≤ l1 ∧ i = .int .i64 k ∧ n = .int .i64 x) (fun _ i => l1 - (intOf i).toNat)
      case atStart => exact ⟨_, 0, by omega, rfl, rfl⟩
      case round =>
        obtain ⟨x, k, hk, rfl, rfl⟩ := hrel
        by_cases hlt : k < l1
        · obtain ⟨b, o, rfl, hck⟩ := R1.out.at hlt
          unfold S at hck
          go_wp2
          all_goals first | (go_ret; exact ⟨RB.of trivial, rfl⟩) | skip
          go_round
          case rel => exact ⟨_, k + 1, by omega, by go_num, rfl⟩
          case measure => simp [intOf]; omega
        · go_wp2
          all_goals (go_ret; exact ⟨RB.of trivial, rfl⟩)

set_option maxHeartbeats 2000000 in
theorem zz16_any (a0 a1 a2 : Option Addr) (l0 l1 l2 c0 c1 c2 : Nat) (T U : Nat → ByteArray) (typ sub : ByteArray) (w : World)
    (h0 : Row (S T) w a0 l0) (h1 : Row (S U) w a1 l1) (h2 : l2 ≤ 9223372036854775807) (ht : typ.size ≤ 9223372036854775807) (hs : sub.size ≤ 9223372036854775807) :
    Calls Try.prog 16 #[.slice a0 l0 c0, .slice a1 l1 c1, .slice a2 l2 c2, .string typ, .string sub] w fun e w' => RB e True ∧ w' = w := by
  have hl0 := h0.1
  have hl1 := h1.1
  have R0 : Hid (Row (S T) w a0 l0) := h0
  have R1 : Hid (Row (S U) w a1 l1) := h1
  clear h0 h1
  go_enter Try.func16, Try.ntmps16
  go_wp2
  all_goals first | (go_ret; exact ⟨RB.of trivial, rfl⟩) | skip
  go_loop [11, 12] (fun n i => ∃ (x : Int) (k : Nat), k ≤ l0 ∧ i = .int .i64 k ∧ n = .int .i64 x) (fun _ i => l0 - (intOf i).toNat)
  case atStart => exact ⟨_, 0, by omega, rfl, rfl⟩
  case round =>
    obtain ⟨x, k, hk, rfl, rfl⟩ := hrel
    by_cases hlt : k < l0
    · obtain ⟨b, o, rfl, hck⟩ := R0.out.at hlt
      unfold S at hck
      go_wp2
      all_goals first | (go_ret; exact ⟨RB.of trivial, rfl⟩) | skip
      go_round
      case rel => exact ⟨_, k + 1, by omega, by go_num, rfl⟩
      case measure => simp [intOf]; omega
    · go_wp2
      all_goals first | (go_ret; exact ⟨RB.of trivial, rfl⟩) | skip
      go_loop [11, 13] (fun n i => ∃ (x : Int) (k : Nat), k ≤ l1 ∧ i = .int .i64 k ∧ n = .int .i64 x) (fun _ i => l1 - (intOf i).toNat)
      case atStart => exact ⟨_, 0, by omega, rfl, rfl⟩
      case round =>
        obtain ⟨x, k, hk, rfl, rfl⟩ := hrel
        by_cases hlt : k < l1
        · obtain ⟨b, o, rfl, hck⟩ := R1.out.at hlt
          unfold S at hck
          go_wp2
          all_goals first | (go_ret; exact ⟨RB.of trivial, rfl⟩) | skip
          go_round
          case rel => exact ⟨_, k + 1, by omega, by go_num, rfl⟩
          case measure => simp [intOf]; omega
        · go_wp2
          all_goals (go_ret; exact ⟨RB.of trivial, rfl⟩)

set_option maxHeartbeats 2000000 in
theorem within_any (a0 a1 a2 : Option Addr) (l0 l1 l2 c0 c1 c2 : Nat) (T U : Nat → ByteArray) (typ sub : ByteArray) (w : World)
    (h0 : Row (S T) w a0 l0) (h1 : Row (S U) w a1 l1) (h2 : l2 ≤ 9223372036854775807) (ht : typ.size ≤ 9223372036854775807) (hs : sub.size ≤ 9223372036854775807) :
    Calls Try.prog 7 #[.slice a0 l0 c0, .slice a1 l1 c1, .slice a2 l2 c2, .string typ, .string sub, .string ⟨#[]⟩, .string ⟨#[]⟩] w fun e w' => RB e (l0 ≤ 65536 ∧ typ.size ≤ 1048576 ∧ sub.size ≤ 1048576) ∧ w' = w := by
  have hl0 := h0.1
  have hl1 := h1.1
  have R0 : Hid (Row (S T) w a0 l0) := h0
  have R1 : Hid (Row (S U) w a1 l1) := h1
  clear h0 h1
  go_enter Try.func7, Try.ntmps7
  go_wp2
  all_goals first | (go_ret; exact ⟨RB.f, rfl⟩) | skip
  go_loop [15, 16] (fun n i => ∃ (x : Int) (k : Nat), k ≤ l0 ∧ i = .int .i64 k ∧ n = .int .i64 x) (fun _ i => l0 - (intOf i).toNat)
  case atStart => exact ⟨_, 0, by omega, rfl, rfl⟩
  case round =>
    obtain ⟨x, k, hk, rfl, rfl⟩ := hrel
    by_cases hlt : k < l0
    · obtain ⟨b, o, rfl, hck⟩ := R0.out.at hlt
      unfold S at hck
      go_wp2
      all_goals first | (go_ret; exact ⟨RB.f, rfl⟩) | skip
      go_round
      case rel => exact ⟨_, k + 1, by omega, by go_num, rfl⟩
      case measure => simp [intOf]; omega
    · go_wp2
      all_goals first | (go_ret; exact ⟨RB.f, rfl⟩) | skip
      go_loop [15, 17] (fun n i => ∃ (x : Int) (k : Nat), k ≤ l1 ∧ i = .int .i64 k ∧ n = .int .i64 x) (fun _ i => l1 - (intOf i).toNat)
      case atStart => exact ⟨_, 0, by omega, rfl, rfl⟩
      case round =>
        obtain ⟨x, k, hk, rfl, rfl⟩ := hrel
        by_cases hlt : k < l1
        · obtain ⟨b, o, rfl, hck⟩ := R1.out.at hlt
          unfold S at hck
          go_wp2
          all_goals first | (go_ret; exact ⟨RB.f, rfl⟩) | skip
          go_round
          case rel => exact ⟨_, k + 1, by omega, by go_num, rfl⟩
          case measure => simp [intOf]; omega
        · go_wp2
          all_goals first | (go_ret; exact ⟨RB.f, rfl⟩) | (go_ret; refine ⟨RB.of ?_, rfl⟩; go_light; omega)

end Go.Proofs.Qxb6002652a.Wt
