/- FnWeightIsAMatchingWeightOrZero: the other ways -/
import Derived.Test.Qxb6002652aMatch
namespace Go.Proofs.Qxb6002652a.Wt
open Go.RowKit
set_option linter.unusedVariables false

set_option maxHeartbeats 4000000 in
theorem law5_lens (a0 a1 a2 : Option Addr) (l0 l1 l2 c0 c1 c2 : Nat) (T U : Nat → ByteArray) (typ sub : ByteArray) (w : World)
    (h0 : Row (S T) w a0 l0) (h1 : Row (S U) w a1 l1) (h2 : l2 ≤ 9223372036854775807) (ht : typ.size ≤ 9223372036854775807) (hs : sub.size ≤ 9223372036854775807)
    (hne : l0 ≠ l1 ∨ l0 ≠ l2) :
    Calls Try.prog 5 #[.slice a0 l0 c0, .slice a1 l1 c1, .slice a2 l2 c2, .string typ, .string sub] w fun e w' => e = .returned (.bool true) ∧ Below w.heap.size w w' := by
  have hl0 := h0.1
  have hl1 := h1.1
  have R0 : Hid (Row (S T) w a0 l0) := h0
  have R1 : Hid (Row (S U) w a1 l1) := h1
  clear h0 h1
  rcases hne with hne | hne
  all_goals
    go_enter Try.func5, Try.ntmps5
    go_wp2_with fail
    refine (zz16_any _ _ _ l0 l1 l2 c0 c1 c2 T U typ sub _ R0.out R1.out h2 ht hs).mono ?_
    rintro e w' ⟨⟨bb, rfl, _⟩, rfl⟩
    cases bb
    · go_wp2
      go_ret
      exact ⟨rfl, Below.refl _ _⟩
    go_wp2_with fail
    refine (within_any _ _ _ l0 l1 l2 c0 c1 c2 T U typ sub _ R0.out R1.out h2 ht hs).mono ?_
    rintro e w' ⟨⟨bb, rfl, hbd⟩, rfl⟩
    clear hbd
    cases bb
    · go_wp2
      go_ret
      exact ⟨rfl, Below.refl _ _⟩
    go_wp2_with fail
    all_goals (go_ret; exact ⟨rfl, Below.refl _ _⟩)

set_option maxHeartbeats 4000000 in
theorem law5_slash (a0 a1 a2 : Option Addr) (n c0 c1 c2 : Nat) (T U : Nat → ByteArray) (typ sub : ByteArray) (w : World)
    (h0 : Row (S T) w a0 n) (h1 : Row (S U) w a1 n) (ht : typ.size ≤ 9223372036854775807) (hs : sub.size ≤ 9223372036854775807)
    (hh : hasB typ = true) :
    Calls Try.prog 5 #[.slice a0 n c0, .slice a1 n c1, .slice a2 n c2, .string typ, .string sub] w fun e w' => e = .returned (.bool true) ∧ Below w.heap.size w w' := by
  have hl0 := h0.1
  have R0 : Hid (Row (S T) w a0 n) := h0
  have R1 : Hid (Row (S U) w a1 n) := h1
  clear h0 h1
  go_enter Try.func5, Try.ntmps5
  go_wp2_with fail
  refine (zz16_any _ _ _ n n n c0 c1 c2 T U typ sub _ R0.out R1.out hl0 ht hs).mono ?_
  rintro e w' ⟨⟨bb, rfl, _⟩, rfl⟩
  cases bb
  · go_wp2
    go_ret
    exact ⟨rfl, Below.refl _ _⟩
  go_wp2_with fail
  refine (within_any _ _ _ n n n c0 c1 c2 T U typ sub _ R0.out R1.out hl0 ht hs).mono ?_
  rintro e w' ⟨⟨bb, rfl, hbd⟩, rfl⟩
  clear hbd
  cases bb
  · go_wp2
    go_ret
    exact ⟨rfl, Below.refl _ _⟩
  go_wp2_with (go_at_call 8; refine (hasSlash_any _ _ ht).mono ?_; rintro e w' ⟨rfl, rfl⟩)
  go_ret
  exact ⟨rfl, Below.refl _ _⟩

set_option maxHeartbeats 4000000 in
theorem law5_zero (a0 a1 a2 : Option Addr) (c0 c1 c2 : Nat) (T U : Nat → ByteArray) (Q : Nat → Nat) (typ sub : ByteArray) (w : World)
    (h0 : Row (S T) w a0 0) (h1 : Row (S U) w a1 0) (ht : typ.size ≤ 9223372036854775807) (hs : sub.size ≤ 9223372036854775807)
    (hh : hasB typ = false) :
    Calls Try.prog 5 #[.slice a0 0 c0, .slice a1 0 c1, .slice a2 0 c2, .string typ, .string sub] w fun e w' => e = .returned (.bool true) ∧ Below w.heap.size w w' := by
  have R0 : Hid (Row (S T) w a0 0) := h0
  have R1 : Hid (Row (S U) w a1 0) := h1
  have HH : Hid (hasB typ = false) := hh
  clear h0 h1
  go_enter Try.func5, Try.ntmps5
  go_wp2_with fail
  refine (zz16_any _ _ _ 0 0 0 c0 c1 c2 T U typ sub _ R0.out R1.out (by omega) ht hs).mono ?_
  rintro e w' ⟨⟨bb, rfl, _⟩, rfl⟩
  cases bb
  · go_wp2
    go_ret
    exact ⟨rfl, Below.refl _ _⟩
  go_wp2_with fail
  refine (within_any _ _ _ 0 0 0 c0 c1 c2 T U typ sub _ R0.out R1.out (by omega) ht hs).mono ?_
  rintro e w' ⟨⟨bb, rfl, hbd⟩, rfl⟩
  cases bb
  · go_wp2
    go_ret
    exact ⟨rfl, Below.refl _ _⟩
  obtain ⟨_, hts, hss⟩ := hbd rfl
  clear hbd
  go_wp2_with (go_at_call 8; refine (hasSlash_any _ _ ht).mono ?_; rintro e w' ⟨rfl, rfl⟩)
  refine (cloneStrings_zero _ _ _).mono ?_
  rintro e w1 ⟨e0, k0, rfl, hb1⟩
  go_wp2_with fail
  refine (cloneStrings_zero _ _ _).mono ?_
  rintro e w2 ⟨e1, k1, rfl, hb2⟩
  go_wp2_with fail
  refine (cloneFloats_zero _ _ _).mono ?_
  rintro e w3 ⟨e2, k2, rfl, hb3⟩
  go_wp2_with fail
  refine (build_zero _ _ _ _ _ _ T U Q _).mono ?_
  rintro e w4 ⟨gr, cap, rfl, hbr⟩
  have BR : Hid (BRel T U Q w3 (.slice (some ⟨gr, 0, none⟩) 0 cap) 0 w4) := hbr
  clear hbr
  go_wp2_with fail
  refine (ZZWeight_any gr 0 cap T U Q (nm typ sub) typ sub w4 typ.size (nm_idx typ sub HH.out) (by rw [nm_size]; omega) (by rw [nm_size]; omega) (nm_fst typ sub) (nm_snd typ sub) (by omega) (fun h => by omega) BR.out.rngs).mono ?_
  rintro e w5 ⟨rfl, hb5⟩
  have BL : Hid (Below w'.heap.size w' w5) := (((hb1.trans (hb2.mono hb1.size)).trans (hb3.mono (Nat.le_trans hb1.size hb2.size))).trans (BR.out.2.mono (Nat.le_trans (Nat.le_trans hb1.size hb2.size) hb3.size))).trans (hb5.mono (Nat.le_trans (Nat.le_trans (Nat.le_trans hb1.size hb2.size) hb3.size) BR.out.2.size))
  clear hb1 hb2 hb3 hb5 BR
  go_wp2_with fail
  go_loop [12, 14] (fun m j => m = .bool false ∧ j = .int .i64 0) (fun _ _ => 0)
  case atStart => exact ⟨rfl, rfl⟩
  case round =>
    obtain ⟨rfl, rfl⟩ := hrel
    go_wp2
    go_ret
    exact ⟨ret_bool zero_eq, BL.out⟩

theorem law5 (a0 a1 a2 : Option Addr) (l0 l1 l2 c0 c1 c2 : Nat) (T U : Nat → ByteArray) (Q : Nat → Nat) (typ sub : ByteArray) (w : World)
    (h0 : Row (S T) w a0 l0) (h1 : Row (S U) w a1 l1) (h2 : Row (F Q) w a2 l2) (ht : typ.size ≤ 9223372036854775807) (hs : sub.size ≤ 9223372036854775807) :
    Calls Try.prog 5 #[.slice a0 l0 c0, .slice a1 l1 c1, .slice a2 l2 c2, .string typ, .string sub] w fun e w' => e = .returned (.bool true) ∧ Below w.heap.size w w' := by
  by_cases hne : l0 ≠ l1 ∨ l0 ≠ l2
  · exact law5_lens a0 a1 a2 l0 l1 l2 c0 c1 c2 T U typ sub w h0 h1 h2.1 ht hs hne
  obtain rfl : l0 = l1 := by omega
  obtain rfl : l0 = l2 := by omega
  cases hh : hasB typ with
  | true => exact law5_slash a0 a1 a2 l0 c0 c1 c2 T U typ sub w h0 h1 ht hs hh
  | false =>
    by_cases hn : 0 < l0
    · exact law5_pos a0 a1 a2 l0 c0 c1 c2 T U Q typ sub w h0 h1 h2 ht hs hn hh
    · obtain rfl : l0 = 0 := by omega
      exact law5_zero a0 a1 a2 c0 c1 c2 T U Q typ sub w h0 h1 ht hs hh

end Go.Proofs.Qxb6002652a.Wt
