/- FnWeightFirstExactMatchWins: the law's walk -/
import Derived.Test.Qxb6002652aMatch
namespace Go.Proofs.Qxb6002652a.Wt
open Go.RowKit
set_option linter.unusedVariables false
attribute [local go_sem] run_store_float

/-- one range ahead of the others -/
def pre {α : Type} (a : α) (f : Nat → α) : Nat → α
  | 0 => a
  | k + 1 => f k

theorem cellsOf_pre (T U : Nat → ByteArray) (Q : Nat → Nat) (typ sub : ByteArray) (q0 : Nat) : ∀ n, cellsOf (pre typ T) (pre sub U) (pre q0 Q) (n + 1) = [.string typ, .string sub, .float .f64 q0] ++ cellsOf T U Q n
  | 0 => rfl
  | n + 1 => by
    show cellsOf (pre typ T) (pre sub U) (pre q0 Q) (n + 1) ++ _ = _
    rw [cellsOf_pre T U Q typ sub q0 n]
    rfl

theorem own_later {w w' : World} {base e size g n cap B : Nat} {xs : List Value} (h : w.ownsRow base e size (.slice (some ⟨g, 0, none⟩) n cap) n xs) (hb : Below B w w') (hg : g < B) : w'.ownsRow base e size (.slice (some ⟨g, 0, none⟩) n cap) n xs := by
  refine ⟨h.1, ?_⟩
  rcases h.2 with h' | ⟨g', cap', cur, h', a, b, c⟩
  · exact .inl h'
  · have : g = g' := by
      simp only [Value.slice.injEq, Option.some.injEq, Addr.mk.injEq, and_true, true_and] at h'
      exact h'.1
    subst this
    exact .inr ⟨g, cap', cur, h', a, by rw [hb.block g hg]; exact b, c⟩

theorem cells_one (T U : Nat → ByteArray) (Q : Nat → Nat) (n : Nat) : ∀ u ∈ cellsOf T U Q n, u.oneCell' = true := by
  induction n with
  | zero => intro u hu; simp [cellsOf] at hu
  | succ n ih =>
    intro u hu
    unfold cellsOf at hu
    rw [List.mem_append] at hu
    rcases hu with hu | hu
    · exact ih u hu
    · simp at hu
      rcases hu with rfl | rfl | rfl <;> rfl

theorem BRel.news {T U : Nat → ByteArray} {Q : Nat → Nat} {w w' : World} {g cap n : Nat} (h : BRel T U Q w (.slice (some ⟨g, 0, none⟩) n cap) n w') :
    ∀ j u, (cellsOf T U Q n)[j]? = some u → w'.cell? ((⟨g, 0, none⟩ : Addr).add j) = some u := by
  intro j u hu
  have hj : j < n * 3 := by
    have := (List.getElem?_eq_some_iff.1 hu).1
    rw [cellsOf_len] at this
    exact this
  have hadd : (⟨g, 0, none⟩ : Addr).add j = ⟨g, j, none⟩ := by unfold Addr.add; split <;> simp_all
  rw [hadd, h.1.cellAt j hj, hu]

theorem below_two' {B : Nat} {w wr w1 : World} {o o' : Obj} {g n cap : Nat} (hb : Below B w wr) (hB : B ≤ wr.heap.size) (hg : ((wr.alloc o).alloc o').grownBy w1 (Value.slice (some ⟨g, 0, none⟩) n cap).ownBlock) (hge : B ≤ g) : Below B w w1 :=
  ((hb.alloc hB o).alloc (by simp; omega) o').grown hg (by simp; omega) (fun k hk => by simp [Value.ownBlock] at hk; omega)

theorem first_q (T U : Nat → ByteArray) (Q : Nat → Nat) (typ sub : ByteArray) (q0 n : Nat) : (wf (pre typ T) (pre sub U) (pre q0 Q) typ sub (1 + n)).1 = q0 := by
  rw [Nat.add_comm, law_first (T := pre typ T) (U := pre sub U) (Q := pre q0 Q) (typ := typ) (sub := sub) rfl rfl n]
  rfl

theorem rngs_of {T U : Nat → ByteArray} {Q : Nat → Nat} {w' : World} {base g cap n : Nat} (h : w'.ownsRow base 32 3 (.slice (some ⟨g, 0, none⟩) n cap) n (cellsOf T U Q n)) : Rngs w' g n T U Q := by
  intro k hk
  obtain ⟨a, b, c⟩ := cellsOf_get T U Q n k hk
  refine ⟨?_, ?_, ?_⟩ <;> (rw [h.cellAt _ (by omega)]; assumption)

set_option maxHeartbeats 4000000 in
theorem law3_pos (a0 a1 a2 : Option Addr) (n c0 c1 c2 : Nat) (T U : Nat → ByteArray) (Q : Nat → Nat) (typ sub : ByteArray) (q0 : Nat) (w : World)
    (h0 : Row (S T) w a0 n) (h1 : Row (S U) w a1 n) (h2 : Row (F Q) w a2 n) (ht : typ.size ≤ 9223372036854775807) (hs : sub.size ≤ 9223372036854775807) (hn : 0 < n)
    (hh : hasB typ = false) :
    Calls Try.prog 3 #[.slice a0 n c0, .slice a1 n c1, .slice a2 n c2, .string typ, .string sub, .float .f64 q0] w fun e w' => e = .returned (.bool true) ∧ Below w.heap.size w w' := by
  obtain ⟨i0, hi, hz0, hz1, hz2⟩ := info_parts info32
  have hl := h0.1
  obtain ⟨b0, o0, rfl, hc0⟩ := h0.2 hn
  obtain ⟨b1, o1, rfl, hc1⟩ := h1.2 hn
  obtain ⟨b2, o2, rfl, hc2⟩ := h2.2 hn
  have R0 : Hid (Row (S T) w (some ⟨b0, o0, none⟩) n) := h0
  have R1 : Hid (Row (S U) w (some ⟨b1, o1, none⟩) n) := h1
  have H0 : Hid (∀ i, i < n → w.cell? ⟨b0, o0 + i, none⟩ = some (S T i)) := hc0
  have H1 : Hid (∀ i, i < n → w.cell? ⟨b1, o1 + i, none⟩ = some (S U i)) := hc1
  have H2 : Hid (∀ i, i < n → w.cell? ⟨b2, o2 + i, none⟩ = some (F Q i)) := hc2
  have HH : Hid (hasB typ = false) := hh
  clear h0 h1 h2 hc0 hc1 hc2
  go_enter Try.func3, Try.ntmps3
  go_wp2_with fail
  refine (zz6_any _ _ _ n n n c0 c1 c2 T U typ sub q0 _ R0.out R1.out hl ht hs).mono ?_
  rintro e w' ⟨⟨bb, rfl, _⟩, rfl⟩
  cases bb
  · go_wp2
    go_ret
    exact ⟨rfl, Below.refl _ _⟩
  go_wp2_with fail
  refine (within_any _ _ _ n n n c0 c1 c2 T U typ sub _ R0.out R1.out hl ht hs).mono ?_
  rintro e w' ⟨⟨bb, rfl, hbd⟩, rfl⟩
  cases bb
  · go_wp2
    go_ret
    exact ⟨rfl, Below.refl _ _⟩
  obtain ⟨hm, hts, hss⟩ := hbd rfl
  clear hbd
  go_wp2_with (go_at_call 8; refine (hasSlash_any _ _ ht).mono ?_; rintro e w' ⟨rfl, rfl⟩)
  refine (cloneStrings_pos b0 o0 n c0 T _ hn hm H0.out).mono ?_
  rintro e w1 ⟨g0, rfl, hge0, hlt0, hcl0, hb1⟩
  have HA : Hid (∀ i, i < n → w1.cell? ⟨b1, o1 + i, none⟩ = some (S U i)) := cells_later H1.out hb1 (Nat.le_refl _) hn
  have HB : Hid (∀ i, i < n → w1.cell? ⟨b2, o2 + i, none⟩ = some (F Q i)) := cells_later H2.out hb1 (Nat.le_refl _) hn
  have G0 : Hid (∀ i, i < n → w1.cell? ⟨g0, i, none⟩ = some (S T i)) := hcl0
  clear hcl0
  go_wp2_with fail
  refine (cloneStrings_pos b1 o1 n c1 U _ hn hm HA.out).mono ?_
  rintro e w2 ⟨g1, rfl, hge1, hlt1, hcl1, hb2⟩
  have HC : Hid (∀ i, i < n → w2.cell? ⟨b2, o2 + i, none⟩ = some (F Q i)) := cells_later HB.out hb2 (Nat.le_refl _) hn
  have G0' : Hid (∀ i, i < n → w2.cell? ⟨g0, i, none⟩ = some (S T i)) := cells_later0 G0.out hb2 (Nat.le_refl _) hn
  have G1 : Hid (∀ i, i < n → w2.cell? ⟨g1, i, none⟩ = some (S U i)) := hcl1
  clear hcl1
  go_wp2_with fail
  refine (cloneFloats_pos b2 o2 n c2 Q _ hn hm HC.out).mono ?_
  rintro e w3 ⟨g2, rfl, hge2, hlt2, hcl2, hb3⟩
  have TH : Hid (Three w3 g0 g1 g2 n T U Q) := ⟨cells_later0 G0'.out hb3 (Nat.le_refl _) hn, cells_later0 G1.out hb3 (Nat.le_refl _) hn, hcl2⟩
  clear hcl2 HA HB HC G0 G0' G1
  go_wp2_with (at_make; refine wpList_make_own _ rfl _ _ 30 rfl w3.heap.size 32 i0 _ 3 Try.underlying30 hi hz0 hz1 _ _ _ (n + 1) rfl rfl (by omega) (by rw [hz2]; omega) (by unfold maxLen; omega) (Nat.le_refl _) ?_; intro w4 hown4 hgrow4)
  refine (ZZRange_any _ _ _ _).mono ?_
  rintro e wz ⟨rfl, rfl⟩
  have hb4 : Below w3.heap.size w3 w4 := (Below.refl _ _).grown hgrow4 (Nat.le_refl _) (fun k hk => by cases hk)
  have hsz4 := hb4.size
  go_wp2_with (at_builtin; refine wpList_append_lies _ rfl _ _ 30 rfl w3.heap.size 32 i0 _ 3 40 Try.underlying30 hi hz0 hz1 hz2 rfl (by omega) (.slice (some ⟨w3.heap.size, 0, none⟩) 0 (n + 1)) 0 [] rfl ((hown4.alloc _).alloc _) ⟨w4.heap.size + 1, 0, none⟩ 1 1 [.string typ, .string sub, .float .f64 q0] rfl rfl (World.news_of_block (cs := #[.string typ, .string sub, .float .f64 q0]) (t := 32) (fr := (0, 0)) (new2 _ _ _)) (by simp [Value.oneCell']) (by omega) (by unfold maxLen; omega) (by omega) (by simp; omega) (w4.heap.size + 2) (by simp) ?_; intro g5 cap5 w5 hown5 hgrow5 hat5 hlt5)
  simp only [Nat.zero_add, List.nil_append] at hown5
  have hb5 : Below w3.heap.size w3 w5 := below_two' hb4 hsz4 hgrow5 (Nat.le_refl _)
  clear hown4 hgrow4 hgrow5 hat5
  have TH5 : Hid (Three w5 g0 g1 g2 n T U Q) := TH.out.later hb5 (Nat.le_refl _) hn
  refine (build_pos g0 g1 g2 n n n n T U Q _ hn hm TH5.out.1 TH5.out.2.1 TH5.out.2.2).mono ?_
  rintro e w6 ⟨gr, capr, rfl, hbr⟩
  have BR : Hid (BRel T U Q w5 (.slice (some ⟨gr, 0, none⟩) n capr) n w6) := hbr
  have hown6 := own_later hown5 hbr.2 hlt5
  have hge6 : w3.heap.size ≤ g5 := own_ge hown5
  have hsz6 : w3.heap.size ≤ w6.heap.size := Nat.le_trans hb5.size hbr.2.size
  clear hbr hown5
  go_wp2_with (at_builtin; refine wpList_append_lies _ rfl _ _ 30 rfl w3.heap.size 32 i0 _ 3 40 Try.underlying30 hi hz0 hz1 hz2 rfl (by omega) (.slice (some ⟨g5, 0, none⟩) 1 cap5) 1 [.string typ, .string sub, .float .f64 q0] rfl hown6 ⟨gr, 0, none⟩ n capr (cellsOf T U Q n) rfl (cellsOf_len T U Q n) BR.out.news (cells_one T U Q n) hn (by unfold maxLen; omega) (by omega) hsz6 w6.heap.size rfl ?_; intro g7 cap7 w7 hown7 hgrow7 hat7 hlt7)
  have hb7 : Below w3.heap.size w6 w7 := (Below.refl _ _).grown hgrow7 hsz6 (fun k hk => by simp [Value.ownBlock] at hk; omega)
  rw [show [Value.string typ, .string sub, .float .f64 q0] ++ cellsOf T U Q n = cellsOf (pre typ T) (pre sub U) (pre q0 Q) (1 + n) by rw [Nat.add_comm]; exact (cellsOf_pre T U Q typ sub q0 n).symm] at hown7
  have HR : Hid (Rngs w7 g7 (1 + n) (pre typ T) (pre sub U) (pre q0 Q)) := rngs_of hown7
  have hq : (wf (pre typ T) (pre sub U) (pre q0 Q) typ sub (1 + n)).1 = q0 := first_q T U Q typ sub q0 n
  have HQ : Hid ((wf (pre typ T) (pre sub U) (pre q0 Q) typ sub (1 + n)).1 = q0) := hq
  have B3 : Hid (Below w'.heap.size w' w3) := (hb1.trans (hb2.mono hb1.size)).trans (hb3.mono (Nat.le_trans hb1.size hb2.size))
  have s3 : w'.heap.size ≤ w3.heap.size := B3.out.size
  have B7 : Hid (Below w'.heap.size w' w7) := ((B3.out.trans (hb5.mono s3)).trans (BR.out.2.mono (Nat.le_trans s3 hb5.size))).trans (hb7.mono s3)
  clear hown7 hgrow7 hat7 hown6 hq hb7 hb5 hb4 hb1 hb2 hb3
  refine (ZZWeight_any g7 (1 + n) cap7 (pre typ T) (pre sub U) (pre q0 Q) (nm typ sub) typ sub w7 typ.size (nm_idx typ sub HH.out) (by rw [nm_size]; omega) (by rw [nm_size]; omega) (nm_fst typ sub) (nm_snd typ sub) (by omega) (fun _ => hlt7) HR.out).mono ?_
  rintro e w8 ⟨rfl, hb8⟩
  rw [HQ.out]
  go_wp2_with (go_at_call 13; refine (sameWeight_any _ _ _).mono ?_; rintro e wq ⟨rfl, rfl⟩)
  go_ret
  exact ⟨ret_bool (same_self q0), B7.out.trans (hb8.mono B7.out.size)⟩

end Go.Proofs.Qxb6002652a.Wt
