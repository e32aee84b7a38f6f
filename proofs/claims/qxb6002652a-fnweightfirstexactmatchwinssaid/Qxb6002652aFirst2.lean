/- FnWeightFirstExactMatchWins: the other ways -/
import Derived.Test.Qxb6002652aFirst
namespace Go.Proofs.Qxb6002652a.Wt
open Go.RowKit
set_option linter.unusedVariables false
attribute [local go_sem] run_store_float

set_option maxHeartbeats 4000000 in
theorem law3_lens (a0 a1 a2 : Option Addr) (l0 l1 l2 c0 c1 c2 : Nat) (T U : Nat → ByteArray) (typ sub : ByteArray) (q0 : Nat) (w : World)
    (h0 : Row (S T) w a0 l0) (h1 : Row (S U) w a1 l1) (h2 : l2 ≤ 9223372036854775807) (ht : typ.size ≤ 9223372036854775807) (hs : sub.size ≤ 9223372036854775807)
    (hne : l0 ≠ l1 ∨ l0 ≠ l2) :
    Calls Try.prog 3 #[.slice a0 l0 c0, .slice a1 l1 c1, .slice a2 l2 c2, .string typ, .string sub, .float .f64 q0] w fun e w' => e = .returned (.bool true) ∧ Below w.heap.size w w' := by
  have hl0 := h0.1
  have hl1 := h1.1
  have R0 : Hid (Row (S T) w a0 l0) := h0
  have R1 : Hid (Row (S U) w a1 l1) := h1
  clear h0 h1
  rcases hne with hne | hne
  all_goals
    go_enter Try.func3, Try.ntmps3
    go_wp2_with fail
    refine (zz6_any _ _ _ l0 l1 l2 c0 c1 c2 T U typ sub q0 _ R0.out R1.out h2 ht hs).mono ?_
    rintro e w' ⟨⟨bb, rfl, _⟩, rfl⟩
    cases bb
    · go_wp2
      go_ret
      exact ⟨rfl, Below.refl _ _⟩
    go_wp2_with fail
    refine (within_any _ _ _ l0 l1 l2 c0 c1 c2 T U typ sub _ R0.out R1.out h2 ht hs).mono ?_
    rintro e w' ⟨⟨bb, rfl, hbd⟩, rfl⟩
    clear hbd
    cases bb
    · go_wp2
      go_ret
      exact ⟨rfl, Below.refl _ _⟩
    go_wp2_with fail
    all_goals (go_ret; exact ⟨rfl, Below.refl _ _⟩)

set_option maxHeartbeats 4000000 in
theorem law3_slash (a0 a1 a2 : Option Addr) (n c0 c1 c2 : Nat) (T U : Nat → ByteArray) (typ sub : ByteArray) (q0 : Nat) (w : World)
    (h0 : Row (S T) w a0 n) (h1 : Row (S U) w a1 n) (ht : typ.size ≤ 9223372036854775807) (hs : sub.size ≤ 9223372036854775807)
    (hh : hasB typ = true) :
    Calls Try.prog 3 #[.slice a0 n c0, .slice a1 n c1, .slice a2 n c2, .string typ, .string sub, .float .f64 q0] w fun e w' => e = .returned (.bool true) ∧ Below w.heap.size w w' := by
  have hl0 := h0.1
  have R0 : Hid (Row (S T) w a0 n) := h0
  have R1 : Hid (Row (S U) w a1 n) := h1
  clear h0 h1
  go_enter Try.func3, Try.ntmps3
  go_wp2_with fail
  refine (zz6_any _ _ _ n n n c0 c1 c2 T U typ sub q0 _ R0.out R1.out hl0 ht hs).mono ?_
  rintro e w' ⟨⟨bb, rfl, _⟩, rfl⟩
  cases bb
  · go_wp2
    go_ret
    exact ⟨rfl, Below.refl _ _⟩
  go_wp2_with fail
  refine (within_any _ _ _ n n n c0 c1 c2 T U typ sub _ R0.out R1.out hl0 ht hs).mono ?_
  rintro e w' ⟨⟨bb, rfl, hbd⟩, rfl⟩
  clear hbd
  cases bb
  · go_wp2
    go_ret
    exact ⟨rfl, Below.refl _ _⟩
  go_wp2_with (go_at_call 8; refine (hasSlash_any _ _ ht).mono ?_; rintro e w' ⟨rfl, rfl⟩)
  go_ret
  exact ⟨rfl, Below.refl _ _⟩

set_option maxHeartbeats 4000000 in
theorem law3_zero (a0 a1 a2 : Option Addr) (c0 c1 c2 : Nat) (T U : Nat → ByteArray) (Q : Nat → Nat) (typ sub : ByteArray) (q0 : Nat) (w : World)
    (h0 : Row (S T) w a0 0) (h1 : Row (S U) w a1 0) (ht : typ.size ≤ 9223372036854775807) (hs : sub.size ≤ 9223372036854775807)
    (hh : hasB typ = false) :
    Calls Try.prog 3 #[.slice a0 0 c0, .slice a1 0 c1, .slice a2 0 c2, .string typ, .string sub, .float .f64 q0] w fun e w' => e = .returned (.bool true) ∧ Below w.heap.size w w' := by
  obtain ⟨i0, hi, hz0, hz1, hz2⟩ := info_parts info32
  have R0 : Hid (Row (S T) w a0 0) := h0
  have R1 : Hid (Row (S U) w a1 0) := h1
  have HH : Hid (hasB typ = false) := hh
  clear h0 h1
  go_enter Try.func3, Try.ntmps3
  go_wp2_with fail
  refine (zz6_any _ _ _ 0 0 0 c0 c1 c2 T U typ sub q0 _ R0.out R1.out (by omega) ht hs).mono ?_
  rintro e w' ⟨⟨bb, rfl, _⟩, rfl⟩
  cases bb
  · go_wp2
    go_ret
    exact ⟨rfl, Below.refl _ _⟩
  go_wp2_with fail
  refine (within_any _ _ _ 0 0 0 c0 c1 c2 T U typ sub _ R0.out R1.out (by omega) ht hs).mono ?_
  rintro e w' ⟨⟨bb, rfl, hbd⟩, rfl⟩
  cases bb
  · go_wp2
    go_ret
    exact ⟨rfl, Below.refl _ _⟩
  obtain ⟨_, hts, hss⟩ := hbd rfl
  clear hbd
  go_wp2_with (go_at_call 8; refine (hasSlash_any _ _ ht).mono ?_; rintro e w' ⟨rfl, rfl⟩)
  refine (cloneStrings_zero _ _ _).mono ?_
  rintro e w1 ⟨e0, k0, rfl, hb1⟩
  go_wp2_with fail
  refine (cloneStrings_zero _ _ _).mono ?_
  rintro e w2 ⟨e1, k1, rfl, hb2⟩
  go_wp2_with fail
  refine (cloneFloats_zero _ _ _).mono ?_
  rintro e w3 ⟨e2, k2, rfl, hb3⟩
  go_wp2_with (at_make; refine wpList_make_own _ rfl _ _ 30 rfl w3.heap.size 32 i0 _ 3 Try.underlying30 hi hz0 hz1 _ _ _ (0 + 1) rfl rfl (by omega) (by rw [hz2]; omega) (by unfold maxLen; omega) (Nat.le_refl _) ?_; intro w4 hown4 hgrow4)
  refine (ZZRange_any _ _ _ _).mono ?_
  rintro e wz ⟨rfl, rfl⟩
  have hb4 : Below w3.heap.size w3 w4 := (Below.refl _ _).grown hgrow4 (Nat.le_refl _) (fun k hk => by cases hk)
  have hsz4 := hb4.size
  go_wp2_with (at_builtin; refine wpList_append_lies _ rfl _ _ 30 rfl w3.heap.size 32 i0 _ 3 40 Try.underlying30 hi hz0 hz1 hz2 rfl (by omega) (.slice (some ⟨w3.heap.size, 0, none⟩) 0 (0 + 1)) 0 [] rfl ((hown4.alloc _).alloc _) ⟨w4.heap.size + 1, 0, none⟩ 1 1 [.string typ, .string sub, .float .f64 q0] rfl rfl (World.news_of_block (cs := #[.string typ, .string sub, .float .f64 q0]) (t := 32) (fr := (0, 0)) (new2 _ _ _)) (by simp [Value.oneCell']) (by omega) (by unfold maxLen; omega) (by omega) (by simp; omega) (w4.heap.size + 2) (by simp) ?_; intro g5 cap5 w5 hown5 hgrow5 hat5 hlt5)
  simp only [Nat.zero_add, List.nil_append] at hown5
  have hb5 : Below w3.heap.size w3 w5 := below_two' hb4 hsz4 hgrow5 (Nat.le_refl _)
  clear hown4 hgrow4 hgrow5 hat5
  refine (build_zero _ _ _ _ _ _ T U Q _).mono ?_
  rintro e w6 ⟨gr, capr, rfl, hbr⟩
  have BR : Hid (BRel T U Q w5 (.slice (some ⟨gr, 0, none⟩) 0 capr) 0 w6) := hbr
  have hown6 := own_later hown5 hbr.2 hlt5
  have hge6 : w3.heap.size ≤ g5 := own_ge hown5
  have hsz6 : w3.heap.size ≤ w6.heap.size := Nat.le_trans hb5.size hbr.2.size
  clear hbr hown5
  go_wp2_with (at_builtin; refine wpList_append_own _ rfl _ _ 30 rfl w3.heap.size 32 i0 _ 3 40 Try.underlying30 hi hz0 hz1 hz2 rfl (by omega) (.slice (some ⟨g5, 0, none⟩) 1 cap5) 1 [.string typ, .string sub, .float .f64 q0] rfl hown6 ⟨gr, 0, none⟩ 0 capr (cellsOf T U Q 0) rfl (cellsOf_len T U Q 0) BR.out.news (cells_one T U Q 0) (by unfold maxLen; omega) (by omega) hsz6 ?_; intro v7 w7 hown7 hgrow7 hat7; obtain ⟨g7, cap7, rfl, hge7, hlt7⟩ := hown7.form (by omega))
  have hb7 : Below w3.heap.size w6 w7 := (Below.refl _ _).grown hgrow7 hsz6 (fun k hk => by simp [Value.ownBlock] at hk; omega)
  rw [show [Value.string typ, .string sub, .float .f64 q0] ++ cellsOf T U Q 0 = cellsOf (pre typ T) (pre sub U) (pre q0 Q) (1 + 0) by rw [Nat.add_comm]; exact (cellsOf_pre T U Q typ sub q0 0).symm] at hown7
  have HR : Hid (Rngs w7 g7 (1 + 0) (pre typ T) (pre sub U) (pre q0 Q)) := rngs_of hown7
  have hq : (wf (pre typ T) (pre sub U) (pre q0 Q) typ sub (1 + 0)).1 = q0 := first_q T U Q typ sub q0 0
  have HQ : Hid ((wf (pre typ T) (pre sub U) (pre q0 Q) typ sub (1 + 0)).1 = q0) := hq
  have B3 : Hid (Below w'.heap.size w' w3) := (hb1.trans (hb2.mono hb1.size)).trans (hb3.mono (Nat.le_trans hb1.size hb2.size))
  have s3 : w'.heap.size ≤ w3.heap.size := B3.out.size
  have B7 : Hid (Below w'.heap.size w' w7) := ((B3.out.trans (hb5.mono s3)).trans (BR.out.2.mono (Nat.le_trans s3 hb5.size))).trans (hb7.mono s3)
  clear hown7 hgrow7 hat7 hown6 hq hb7 hb5 hb4 hb1 hb2 hb3
  refine (ZZWeight_any g7 (1 + 0) cap7 (pre typ T) (pre sub U) (pre q0 Q) (nm typ sub) typ sub w7 typ.size (nm_idx typ sub HH.out) (by rw [nm_size]; omega) (by rw [nm_size]; omega) (nm_fst typ sub) (nm_snd typ sub) (by omega) (fun _ => hlt7) HR.out).mono ?_
  rintro e w8 ⟨rfl, hb8⟩
  rw [HQ.out]
  go_wp2_with (go_at_call 13; refine (sameWeight_any _ _ _).mono ?_; rintro e wq ⟨rfl, rfl⟩)
  go_ret
  exact ⟨ret_bool (same_self q0), B7.out.trans (hb8.mono B7.out.size)⟩

theorem law3 (a0 a1 a2 : Option Addr) (l0 l1 l2 c0 c1 c2 : Nat) (T U : Nat → ByteArray) (Q : Nat → Nat) (typ sub : ByteArray) (q0 : Nat) (w : World)
    (h0 : Row (S T) w a0 l0) (h1 : Row (S U) w a1 l1) (h2 : Row (F Q) w a2 l2) (ht : typ.size ≤ 9223372036854775807) (hs : sub.size ≤ 9223372036854775807) :
    Calls Try.prog 3 #[.slice a0 l0 c0, .slice a1 l1 c1, .slice a2 l2 c2, .string typ, .string sub, .float .f64 q0] w fun e w' => e = .returned (.bool true) ∧ Below w.heap.size w w' := by
  by_cases hne : l0 ≠ l1 ∨ l0 ≠ l2
  · exact law3_lens a0 a1 a2 l0 l1 l2 c0 c1 c2 T U typ sub q0 w h0 h1 h2.1 ht hs hne
  obtain rfl : l0 = l1 := by omega
  obtain rfl : l0 = l2 := by omega
  cases hh : hasB typ with
  | true => exact law3_slash a0 a1 a2 l0 c0 c1 c2 T U typ sub q0 w h0 h1 ht hs hh
  | false =>
    by_cases hn : 0 < l0
    · exact law3_pos a0 a1 a2 l0 c0 c1 c2 T U Q typ sub q0 w h0 h1 h2 ht hs hn hh
    · obtain rfl : l0 = 0 := by omega
      exact law3_zero a0 a1 a2 c0 c1 c2 T U Q typ sub q0 w h0 h1 ht hs hh

end Go.Proofs.Qxb6002652a.Wt
