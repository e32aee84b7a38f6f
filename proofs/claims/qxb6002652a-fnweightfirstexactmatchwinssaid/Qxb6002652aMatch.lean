/- FnWeightIsAMatchingWeightOrZero: the law's walk -/
import Derived.Test.Qxb6002652aBuild
import Derived.Test.Qxb6002652aBytes
import Derived.Test.Qxb6002652aPlain
namespace Go.Proofs.Qxb6002652a.Wt
open Go.RowKit
set_option linter.unusedVariables false

/-- the three clones -/
def Three (w : World) (g0 g1 g2 n : Nat) (T U : Nat → ByteArray) (Q : Nat → Nat) : Prop :=
  (∀ i, i < n → w.cell? ⟨g0, i, none⟩ = some (S T i)) ∧ (∀ i, i < n → w.cell? ⟨g1, i, none⟩ = some (S U i)) ∧ (∀ i, i < n → w.cell? ⟨g2, i, none⟩ = some (F Q i))

theorem cells_later {w w' : World} {f : Nat → Value} {b o n B : Nat} (h : ∀ i, i < n → w.cell? ⟨b, o + i, none⟩ = some (f i)) (hb : Below B w w') (hB : w.heap.size ≤ B) (hn : 0 < n) :
    ∀ i, i < n → w'.cell? ⟨b, o + i, none⟩ = some (f i) := fun i hi =>
  (hb.cell (p := ⟨b, o + i, none⟩) (Nat.lt_of_lt_of_le (show b < w.heap.size from World.block_lt_of_cell? w _ (h i hi)) hB)).trans (h i hi)

theorem cells_later0 {w w' : World} {f : Nat → Value} {b n B : Nat} (h : ∀ i, i < n → w.cell? ⟨b, i, none⟩ = some (f i)) (hb : Below B w w') (hB : w.heap.size ≤ B) (hn : 0 < n) :
    ∀ i, i < n → w'.cell? ⟨b, i, none⟩ = some (f i) := fun i hi =>
  (hb.cell (p := ⟨b, i, none⟩) (Nat.lt_of_lt_of_le (show b < w.heap.size from World.block_lt_of_cell? w _ (h i hi)) hB)).trans (h i hi)

theorem Three.later {w w' : World} {g0 g1 g2 n B : Nat} {T U : Nat → ByteArray} {Q : Nat → Nat} (h : Three w g0 g1 g2 n T U Q) (hb : Below B w w') (hB : w.heap.size ≤ B) (hn : 0 < n) : Three w' g0 g1 g2 n T U Q :=
  ⟨cells_later0 h.1 hb hB hn, cells_later0 h.2.1 hb hB hn, cells_later0 h.2.2 hb hB hn⟩

theorem vb {a b : Bool} (h : a = b) : Value.bool a = Value.bool b := by rw [h]
section
variable {T U : Nat → ByteArray} {Q : Nat → Nat} {typ sub : ByteArray} {W k : Nat}
theorem anyM_t (h : mt (T k) (U k) typ sub = true) : true = anyM T U typ sub (k + 1) := by unfold anyM; rw [h]; simp
theorem anyM_f (h : mt (T k) (U k) typ sub = false) : anyM T U typ sub k = anyM T U typ sub (k + 1) := by
  show _ = (anyM T U typ sub k || mt (T k) (U k) typ sub)
  rw [h]; simp
theorem anyF_tt (h : mt (T k) (U k) typ sub = true) (h' : same W (Q k) = true) : true = anyF T U Q typ sub W (k + 1) := by unfold anyF; rw [h, h']; simp
theorem anyF_tf (h' : same W (Q k) = false) : anyF T U Q typ sub W k = anyF T U Q typ sub W (k + 1) := by
  show _ = (anyF T U Q typ sub W k || (mt (T k) (U k) typ sub && same W (Q k)))
  rw [h']; simp
theorem anyF_f (h : mt (T k) (U k) typ sub = false) : anyF T U Q typ sub W k = anyF T U Q typ sub W (k + 1) := by
  show _ = (anyF T U Q typ sub W k || (mt (T k) (U k) typ sub && same W (Q k)))
  rw [h]; simp
end

set_option maxHeartbeats 4000000 in
theorem law5_pos (a0 a1 a2 : Option Addr) (n c0 c1 c2 : Nat) (T U : Nat → ByteArray) (Q : Nat → Nat) (typ sub : ByteArray) (w : World)
    (h0 : Row (S T) w a0 n) (h1 : Row (S U) w a1 n) (h2 : Row (F Q) w a2 n) (ht : typ.size ≤ 9223372036854775807) (hs : sub.size ≤ 9223372036854775807) (hn : 0 < n)
    (hh : hasB typ = false) :
    Calls Try.prog 5 #[.slice a0 n c0, .slice a1 n c1, .slice a2 n c2, .string typ, .string sub] w fun e w' => e = .returned (.bool true) ∧ Below w.heap.size w w' := by
  have hl := h0.1
  obtain ⟨b0, o0, rfl, hc0⟩ := h0.2 hn
  obtain ⟨b1, o1, rfl, hc1⟩ := h1.2 hn
  obtain ⟨b2, o2, rfl, hc2⟩ := h2.2 hn
  have R0 : Hid (Row (S T) w (some ⟨b0, o0, none⟩) n) := h0
  have R1 : Hid (Row (S U) w (some ⟨b1, o1, none⟩) n) := h1
  have H0 : Hid (∀ i, i < n → w.cell? ⟨b0, o0 + i, none⟩ = some (S T i)) := hc0
  have H1 : Hid (∀ i, i < n → w.cell? ⟨b1, o1 + i, none⟩ = some (S U i)) := hc1
  have H2 : Hid (∀ i, i < n → w.cell? ⟨b2, o2 + i, none⟩ = some (F Q i)) := hc2
  have HH : Hid (hasB typ = false) := hh
  clear h0 h1 h2 hc0 hc1 hc2
  go_enter Try.func5, Try.ntmps5
  go_wp2_with fail
  refine (zz16_any _ _ _ n n n c0 c1 c2 T U typ sub _ R0.out R1.out hl ht hs).mono ?_
  rintro e w' ⟨⟨bb, rfl, _⟩, rfl⟩
  cases bb
  · go_wp2
    go_ret
    exact ⟨rfl, Below.refl _ _⟩
  go_wp2_with fail
  refine (within_any _ _ _ n n n c0 c1 c2 T U typ sub _ R0.out R1.out hl ht hs).mono ?_
  rintro e w' ⟨⟨bb, rfl, hbd⟩, rfl⟩
  cases bb
  · go_wp2
    go_ret
    exact ⟨rfl, Below.refl _ _⟩
  obtain ⟨hm, hts, hss⟩ := hbd rfl
  clear hbd
  go_wp2_with (go_at_call 8; refine (hasSlash_any _ _ ht).mono ?_; rintro e w' ⟨rfl, rfl⟩)
  refine (cloneStrings_pos b0 o0 n c0 T _ hn hm H0.out).mono ?_
  rintro e w1 ⟨g0, rfl, hge0, hlt0, hcl0, hb1⟩
  have HA : Hid (∀ i, i < n → w1.cell? ⟨b1, o1 + i, none⟩ = some (S U i)) := cells_later H1.out hb1 (Nat.le_refl _) hn
  have HB : Hid (∀ i, i < n → w1.cell? ⟨b2, o2 + i, none⟩ = some (F Q i)) := cells_later H2.out hb1 (Nat.le_refl _) hn
  have G0 : Hid (∀ i, i < n → w1.cell? ⟨g0, i, none⟩ = some (S T i)) := hcl0
  clear hcl0
  go_wp2_with fail
  refine (cloneStrings_pos b1 o1 n c1 U _ hn hm HA.out).mono ?_
  rintro e w2 ⟨g1, rfl, hge1, hlt1, hcl1, hb2⟩
  have HC : Hid (∀ i, i < n → w2.cell? ⟨b2, o2 + i, none⟩ = some (F Q i)) := cells_later HB.out hb2 (Nat.le_refl _) hn
  have G0' : Hid (∀ i, i < n → w2.cell? ⟨g0, i, none⟩ = some (S T i)) := cells_later0 G0.out hb2 (Nat.le_refl _) hn
  have G1 : Hid (∀ i, i < n → w2.cell? ⟨g1, i, none⟩ = some (S U i)) := hcl1
  clear hcl1
  go_wp2_with fail
  refine (cloneFloats_pos b2 o2 n c2 Q _ hn hm HC.out).mono ?_
  rintro e w3 ⟨g2, rfl, hge2, hlt2, hcl2, hb3⟩
  have TH : Hid (Three w3 g0 g1 g2 n T U Q) := ⟨cells_later0 G0'.out hb3 (Nat.le_refl _) hn, cells_later0 G1.out hb3 (Nat.le_refl _) hn, hcl2⟩
  clear hcl2 HA HB HC G0 G0' G1
  go_wp2_with fail
  refine (build_pos g0 g1 g2 n n n n T U Q _ hn hm TH.out.1 TH.out.2.1 TH.out.2.2).mono ?_
  rintro e w4 ⟨gr, cap, rfl, hbr⟩
  have BR : Hid (BRel T U Q w3 (.slice (some ⟨gr, 0, none⟩) n cap) n w4) := hbr
  clear hbr
  go_wp2_with fail
  have hsz4 : gr < w4.heap.size := World.block_lt_of_cell? w4 _ (BR.out.rngs 0 hn).1
  refine (ZZWeight_any gr n cap T U Q (nm typ sub) typ sub w4 typ.size (nm_idx typ sub HH.out) (by rw [nm_size]; omega) (by rw [nm_size]; omega) (nm_fst typ sub) (nm_snd typ sub) (by omega) (fun _ => hsz4) BR.out.rngs).mono ?_
  rintro e w5 ⟨rfl, hb5⟩
  have TH5 : Hid (Three w5 g0 g1 g2 n T U Q) := (TH.out.later BR.out.2 (Nat.le_refl _) hn).later hb5 (Nat.le_refl _) hn
  obtain ⟨W, hW⟩ : ∃ W, (wf T U Q typ sub n).1 = W := ⟨_, rfl⟩
  have HW : Hid ((wf T U Q typ sub n).1 = W) := hW
  rw [hW]
  clear hW
  have BL : Hid (Below w'.heap.size w' w5) := (((hb1.trans (hb2.mono hb1.size)).trans (hb3.mono (Nat.le_trans hb1.size hb2.size))).trans (BR.out.2.mono (Nat.le_trans (Nat.le_trans hb1.size hb2.size) hb3.size))).trans (hb5.mono (Nat.le_trans (Nat.le_trans (Nat.le_trans hb1.size hb2.size) hb3.size) BR.out.2.size))
  clear hb1 hb2 hb3 hb5 BR TH hsz4
  go_wp2_with fail
  go_loopw [12, 13, 14] (fun m f j wr => ∃ k : Nat, k ≤ n ∧ j = .int .i64 k ∧ m = .bool (anyM T U typ sub k) ∧ f = .bool (anyF T U Q typ sub W k) ∧ Three wr g0 g1 g2 n T U Q ∧ Below w'.heap.size w' wr) (fun _ _ j _ => n - (intOf j).toNat)
  case atStart => exact ⟨0, by omega, rfl, rfl, rfl, TH5.out, BL.out⟩
  case round =>
    obtain ⟨k, hk, rfl, rfl, rfl, hth, hbl⟩ := hrel
    have TR : Hid (Three wr g0 g1 g2 n T U Q) := hth
    have BR : Hid (Below w'.heap.size w' wr) := hbl
    clear hth hbl
    by_cases hlt : k < n
    · have f0 := TR.out.1 k hlt
      have f1 := TR.out.2.1 k hlt
      have f2 := TR.out.2.2 k hlt
      unfold S at f0 f1
      unfold F at f2
      have hk0 : (0 : Int) ≤ (k : Int) := Int.natCast_nonneg _
      have hk1 : (k : Int) < (n : Int) := by omega
      go_wp2_with fail
      go_quiet ((go_at_call 17; exact Calls.quiet_of_same (matches_any _ _ _ _ _)))
      go_wp2_with (go_at_call 13; refine (sameWeight_any _ _ _).mono ?_; rintro e wq ⟨rfl, rfl⟩)
      · have m1 : mt (T k) (U k) typ sub = true := by assumption
        have m2 : same W (Q k) = true := by assumption
        go_roundw
        case rel => exact ⟨k + 1, by omega, by go_num, vb (anyM_t m1), vb (anyF_tt m1 m2), TR.out, below_drewN BR.out _⟩
        case measure => simp [intOf]; omega
      · have m1 : mt (T k) (U k) typ sub = true := by assumption
        have m2 : same W (Q k) = false := by assumption
        go_roundw
        case rel => exact ⟨k + 1, by omega, by go_num, vb (anyM_t m1), vb (anyF_tf m2), TR.out, below_drewN BR.out _⟩
        case measure => simp [intOf]; omega
      · have m1 : mt (T k) (U k) typ sub = false := by assumption
        go_roundw
        case rel => exact ⟨k + 1, by omega, by go_num, vb (anyM_f m1), vb (anyF_f m1), TR.out, below_drewN BR.out _⟩
        case measure => simp [intOf]; omega
    · have : k = n := by omega
      subst this
      go_wp2
      · have m1 : (!anyM T U typ sub k) = true := by assumption
        have m2 : anyM T U typ sub k = false := by simpa using m1
        go_ret
        refine ⟨ret_bool ?_, BR.out⟩
        rw [← HW.out, law_none m2]
        exact zero_eq
      · have m1 : (!anyM T U typ sub k) = false := by assumption
        have m2 : anyM T U typ sub k = true := by simpa using m1
        go_ret
        refine ⟨ret_bool ?_, BR.out⟩
        rw [← HW.out]
        exact law_some m2

end Go.Proofs.Qxb6002652a.Wt
