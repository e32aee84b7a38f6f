/- cloneStrings, cloneFloats: a new row with the same elements -/
import Derived.Test.Qxb6002652aBase
import Derived.Lib.SliceRun
namespace Go.Proofs.Qxb6002652a.Wt
open Go.RowKit
set_option linter.unusedVariables false
attribute [local go_sem] run_store_float

theorem info9 : (Try.prog.info? 9).map (fun i => (i.zero, i.size, i.bytes)) = some (some (.string ⟨#[]⟩), 1, 16) := by kernel_rfl
theorem info24 : (Try.prog.info? 24).map (fun i => (i.zero, i.size, i.bytes)) = some (some (.float .f64 0), 1, 8) := by kernel_rfl

/-- what a clone hands back -/
def Cloned (f : Nat → Value) (w w' : World) (e : Ending) (n : Nat) : Prop :=
  ∃ g, e = .returned (.slice (some ⟨g, 0, none⟩) n n) ∧ w.heap.size ≤ g ∧ g < w'.heap.size ∧ (∀ i, i < n → w'.cell? ⟨g, i, none⟩ = some (f i)) ∧ Below w.heap.size w w'

theorem row_some {w : World} {base : Nat} {e : TypeId} {g n cap : Nat} {xs : List Value} (h : w.ownsRow base e 1 (.slice (some ⟨g, 0, none⟩) n cap) n xs) {k : Nat} (hk : k < n) : ∃ v, w.cell? ⟨g, k, none⟩ = some v := by
  have hl := h.1
  have hk' : k < xs.length := by omega
  exact ⟨xs[k], by rw [h.cellAt k (by omega), List.getElem?_eq_getElem hk']⟩

theorem row_lt {w : World} {base : Nat} {e : TypeId} {g n cap : Nat} {xs : List Value} (h : w.ownsRow base e 1 (.slice (some ⟨g, 0, none⟩) n cap) n xs) (hk : 0 < n) : g < w.heap.size := by
  obtain ⟨v, hv⟩ := row_some h hk
  exact World.block_lt_of_cell? w _ hv

/-- the loop's relation -/
def CRel (f : Nat → Value) (e : TypeId) (w : World) (n k : Nat) (wr : World) : Prop :=
  ∃ xs, wr.ownsRow w.heap.size e 1 (.slice (some ⟨w.heap.size, 0, none⟩) n n) n xs ∧ (∀ j, j < k → xs[j]? = some (f j)) ∧ Below w.heap.size w wr

theorem CRel.start {f : Nat → Value} {e : TypeId} {w w1 : World} {n : Nat} {xs : List Value} (h : w1.ownsRow w.heap.size e 1 (.slice (some ⟨w.heap.size, 0, none⟩) n n) n xs) (hg : w.grownBy w1 none) : CRel f e w n 0 w1 :=
  ⟨xs, h, fun j hj => by omega, (Below.refl _ _).grown hg (Nat.le_refl _) (fun k hk => by cases hk)⟩

theorem CRel.step {f : Nat → Value} {e : TypeId} {w wr : World} {n k : Nat} (h : CRel f e w n k wr) (hk : k < n) : CRel f e w n (k + 1) (wr.setCell ⟨w.heap.size, k, none⟩ (f k)) := by
  obtain ⟨xs, ho, hx, hb⟩ := h
  obtain ⟨ho', hg⟩ := ho.stored k (f k)
  have hl := ho.1
  refine ⟨_, ho', fun j hj => ?_, hb.setCell (p := ⟨w.heap.size, k, none⟩) (Nat.le_refl _) _⟩
  by_cases e : j = k
  · subst e
    rw [List.getElem?_set_self (by omega)]
  · rw [List.getElem?_set_ne (fun h => e h.symm)]
    exact hx j (by omega)

theorem CRel.done {f : Nat → Value} {e : TypeId} {w wr : World} {n : Nat} (h : CRel f e w n n wr) (hn : 0 < n) : Cloned f w wr (.returned (.slice (some ⟨w.heap.size, 0, none⟩) n n)) n := by
  obtain ⟨xs, ho, hx, hb⟩ := h
  exact ⟨_, rfl, Nat.le_refl _, row_lt ho hn, fun i hi => by rw [ho.cellAt i (by omega)]; exact hx i hi, hb⟩

theorem CRel.free {f : Nat → Value} {e : TypeId} {w wr : World} {n k : Nat} (h : CRel f e w n k wr) (hk : k < n) : (∃ v, wr.cell? ⟨w.heap.size, k, none⟩ = some v) ∧ wr.frozen? ⟨w.heap.size, k, none⟩ = false := by
  obtain ⟨xs, ho, _, _⟩ := h
  exact ⟨row_some ho hk, ho.frozenAt k⟩

set_option maxHeartbeats 2000000 in
theorem cloneStrings_pos (b o n cap : Nat) (T : Nat → ByteArray) (w : World) (hn : 0 < n) (hm : n ≤ 65536)
    (hc : ∀ i, i < n → w.cell? ⟨b, o + i, none⟩ = some (S T i)) :
    Calls Try.prog 9 #[.slice (some ⟨b, o, none⟩) n cap] w fun e w' => Cloned (S T) w w' e n := by
  obtain ⟨i0, hi, hz0, hz1, hz2⟩ := info_parts info9
  have hblt : b < w.heap.size := World.block_lt_of_cell? w _ (hc 0 hn)
  have HC : Hid (∀ i, i < n → w.cell? ⟨b, o + i, none⟩ = some (S T i)) := hc
  clear hc
  have hnil := fun wx => Lib.run_eql_slice_nil (P := Try.prog) wx 22 9 (some ⟨b, o, none⟩) n cap 0 0 Try.underlying22
  go_enter Try.func9, Try.ntmps9
  go_wp2_with (at_make; refine wpList_make_full _ rfl _ _ 22 rfl w.heap.size 9 i0 (.string ⟨#[]⟩) 1 Try.underlying22 hi hz0 hz1 _ _ _ _ n rfl rfl rfl rfl (by rw [hz2]; omega) (by unfold maxLen; omega) (Nat.le_refl _) ?_; intro w1 hown hgrow)
  have HS := CRel.start (f := S T) hown hgrow
  clear hown hgrow hnil
  go_loopw [4] (fun j wr => ∃ k : Nat, k ≤ n ∧ j = .int .i64 k ∧ CRel (S T) 9 w n k wr) (fun j _ => n - (intOf j).toNat)
  case atStart => exact ⟨0, by omega, rfl, HS⟩
  case round =>
    obtain ⟨k, hk, rfl, hr⟩ := hrel
    have HR : Hid (CRel (S T) 9 w n k wr) := hr
    obtain ⟨_, _, _, hb⟩ := hr
    by_cases hlt : k < n
    · have f0 := (hb.cell (p := ⟨b, o + k, none⟩) hblt).trans (HC.out k hlt)
      have E : Hid (S T k = .string (T k)) := rfl
      unfold S at f0
      obtain ⟨⟨v0, hv0⟩, hfz⟩ := HR.out.free hlt
      clear hb
      go_wp2
      go_roundw
      case rel => exact ⟨k + 1, by omega, by go_num, HR.out.step hlt⟩
      case measure => simp [intOf]; omega
    · have : k = n := by omega
      subst this
      clear hb
      go_wp2
      go_ret
      exact HR.out.done hn

set_option maxHeartbeats 2000000 in
theorem cloneFloats_pos (b o n cap : Nat) (Q : Nat → Nat) (w : World) (hn : 0 < n) (hm : n ≤ 65536)
    (hc : ∀ i, i < n → w.cell? ⟨b, o + i, none⟩ = some (F Q i)) :
    Calls Try.prog 10 #[.slice (some ⟨b, o, none⟩) n cap] w fun e w' => Cloned (F Q) w w' e n := by
  obtain ⟨i0, hi, hz0, hz1, hz2⟩ := info_parts info24
  have hblt : b < w.heap.size := World.block_lt_of_cell? w _ (hc 0 hn)
  have HC : Hid (∀ i, i < n → w.cell? ⟨b, o + i, none⟩ = some (F Q i)) := hc
  clear hc
  have hnil := fun wx => Lib.run_eql_slice_nil (P := Try.prog) wx 23 24 (some ⟨b, o, none⟩) n cap 0 0 Try.underlying23
  go_enter Try.func10, Try.ntmps10
  go_wp2_with (at_make; refine wpList_make_full _ rfl _ _ 23 rfl w.heap.size 24 i0 (.float .f64 0) 1 Try.underlying23 hi hz0 hz1 _ _ _ _ n rfl rfl rfl rfl (by rw [hz2]; omega) (by unfold maxLen; omega) (Nat.le_refl _) ?_; intro w1 hown hgrow)
  have HS := CRel.start (f := F Q) hown hgrow
  clear hown hgrow hnil
  go_loopw [4] (fun j wr => ∃ k : Nat, k ≤ n ∧ j = .int .i64 k ∧ CRel (F Q) 24 w n k wr) (fun j _ => n - (intOf j).toNat)
  case atStart => exact ⟨0, by omega, rfl, HS⟩
  case round =>
    obtain ⟨k, hk, rfl, hr⟩ := hrel
    have HR : Hid (CRel (F Q) 24 w n k wr) := hr
    obtain ⟨_, _, _, hb⟩ := hr
    by_cases hlt : k < n
    · have f0 := (hb.cell (p := ⟨b, o + k, none⟩) hblt).trans (HC.out k hlt)
      have E : Hid (F Q k = .float .f64 (Q k)) := rfl
      unfold F at f0
      obtain ⟨⟨v0, hv0⟩, hfz⟩ := HR.out.free hlt
      clear hb
      go_wp2
      go_roundw
      case rel => exact ⟨k + 1, by omega, by go_num, HR.out.step hlt⟩
      case measure => simp [intOf]; omega
    · have : k = n := by omega
      subst this
      clear hb
      go_wp2
      go_ret
      exact HR.out.done hn

/-- what a clone of an empty slice hands back -/
def Empty (w w' : World) (e : Ending) : Prop := ∃ ao cap, e = .returned (.slice ao 0 cap) ∧ Below w.heap.size w w'

set_option maxHeartbeats 2000000 in
theorem cloneStrings_zero (ao : Option Addr) (cap : Nat) (w : World) :
    Calls Try.prog 9 #[.slice ao 0 cap] w fun e w' => Empty w w' e := by
  obtain ⟨i0, hi, hz0, hz1, hz2⟩ := info_parts info9
  have hnil := fun wx => Lib.run_eql_slice_nil (P := Try.prog) wx 22 9 ao 0 cap 0 0 Try.underlying22
  cases ao with
  | none =>
    go_enter Try.func9, Try.ntmps9
    go_wp2
    go_ret
    exact ⟨_, _, rfl, Below.refl _ _⟩
  | some a =>
    go_enter Try.func9, Try.ntmps9
    go_wp2_with (at_make; refine wpList_make_full _ rfl _ _ 22 rfl w.heap.size 9 i0 (.string ⟨#[]⟩) 1 Try.underlying22 hi hz0 hz1 _ _ _ _ 0 rfl rfl rfl rfl (by omega) (by unfold maxLen; omega) (Nat.le_refl _) ?_; intro w1 hown hgrow)
    have HB : Hid (Below w.heap.size w w1) := (Below.refl _ _).grown hgrow (Nat.le_refl _) (fun k hk => by cases hk)
    clear hown hgrow
    go_loop [4] (fun j => j = .int .i64 0) (fun _ => 0)
    case atStart => exact rfl
    case round =>
      subst hrel
      go_wp2
      go_ret
      exact ⟨_, _, rfl, HB.out⟩

set_option maxHeartbeats 2000000 in
theorem cloneFloats_zero (ao : Option Addr) (cap : Nat) (w : World) :
    Calls Try.prog 10 #[.slice ao 0 cap] w fun e w' => Empty w w' e := by
  obtain ⟨i0, hi, hz0, hz1, hz2⟩ := info_parts info24
  have hnil := fun wx => Lib.run_eql_slice_nil (P := Try.prog) wx 23 24 ao 0 cap 0 0 Try.underlying23
  cases ao with
  | none =>
    go_enter Try.func10, Try.ntmps10
    go_wp2
    go_ret
    exact ⟨_, _, rfl, Below.refl _ _⟩
  | some a =>
    go_enter Try.func10, Try.ntmps10
    go_wp2_with (at_make; refine wpList_make_full _ rfl _ _ 23 rfl w.heap.size 24 i0 (.float .f64 0) 1 Try.underlying23 hi hz0 hz1 _ _ _ _ 0 rfl rfl rfl rfl (by omega) (by unfold maxLen; omega) (Nat.le_refl _) ?_; intro w1 hown hgrow)
    have HB : Hid (Below w.heap.size w w1) := (Below.refl _ _).grown hgrow (Nat.le_refl _) (fun k hk => by cases hk)
    clear hown hgrow
    go_loop [4] (fun j => j = .int .i64 0) (fun _ => 0)
    case atStart => exact rfl
    case round =>
      subst hrel
      go_wp2
      go_ret
      exact ⟨_, _, rfl, HB.out⟩

end Go.Proofs.Qxb6002652a.Wt
