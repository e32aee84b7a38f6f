/- buildRanges: a new row of media ranges -/
import Derived.Test.Qxb6002652aWeight
import Derived.Test.Qxb6002652aClone
import Derived.Deep.RegionHeld3
import Derived.Deep.AppendLies
namespace Go.Proofs.Qxb6002652a.Wt
open Go.RowKit
set_option linter.unusedVariables false
attribute [local go_sem] run_store_float

theorem info32 : (Try.prog.info? 32).map (fun i => (i.zero, i.size, i.bytes)) = some (some (.agg #[.string ⟨#[]⟩, .string ⟨#[]⟩, .float .f64 0]), 3, 40) := by kernel_rfl

/-- the cells of the first k ranges -/
def cellsOf (T U : Nat → ByteArray) (Q : Nat → Nat) : Nat → List Value
  | 0 => []
  | k + 1 => cellsOf T U Q k ++ [.string (T k), .string (U k), .float .f64 (Q k)]

theorem cellsOf_len (T U : Nat → ByteArray) (Q : Nat → Nat) (k : Nat) : (cellsOf T U Q k).length = k * 3 := by
  induction k with
  | zero => rfl
  | succ k ih => simp [cellsOf, ih]; omega

/-- the loop's relation -/
def BRel (T U : Nat → ByteArray) (Q : Nat → Nat) (w : World) (v : Value) (k : Nat) (wr : World) : Prop :=
  wr.ownsRow w.heap.size 32 3 v k (cellsOf T U Q k) ∧ Below w.heap.size w wr

/-- what buildRanges hands back -/
def Built (T U : Nat → ByteArray) (Q : Nat → Nat) (w w' : World) (e : Ending) (n : Nat) : Prop :=
  ∃ g cap, e = .returned (.slice (some ⟨g, 0, none⟩) n cap) ∧ BRel T U Q w (.slice (some ⟨g, 0, none⟩) n cap) n w'

theorem cellsOf_get (T U : Nat → ByteArray) (Q : Nat → Nat) (n k : Nat) (h : k < n) :
    (cellsOf T U Q n)[k * 3]? = some (.string (T k)) ∧ (cellsOf T U Q n)[k * 3 + 1]? = some (.string (U k)) ∧ (cellsOf T U Q n)[k * 3 + 2]? = some (.float .f64 (Q k)) := by
  induction n with
  | zero => omega
  | succ n ih =>
    have hl := cellsOf_len T U Q n
    by_cases hk : k < n
    · obtain ⟨a, b, c⟩ := ih hk
      refine ⟨?_, ?_, ?_⟩ <;> (unfold cellsOf; rw [List.getElem?_append_left (by omega)]; assumption)
    · have : k = n := by omega
      subst this
      refine ⟨?_, ?_, ?_⟩ <;> (unfold cellsOf; rw [List.getElem?_append_right (by omega), hl])
      · simp
      · rw [show k * 3 + 1 - k * 3 = 1 by omega]; rfl
      · rw [show k * 3 + 2 - k * 3 = 2 by omega]; rfl

theorem BRel.rngs {T U : Nat → ByteArray} {Q : Nat → Nat} {w w' : World} {g cap n : Nat} (h : BRel T U Q w (.slice (some ⟨g, 0, none⟩) n cap) n w') : Rngs w' g n T U Q := by
  intro k hk
  obtain ⟨a, b, c⟩ := cellsOf_get T U Q n k hk
  refine ⟨?_, ?_, ?_⟩ <;> (rw [h.1.cellAt _ (by omega)]; assumption)

theorem own_ge {w : World} {base : Nat} {e : TypeId} {size g n cap : Nat} {xs : List Value} (h : w.ownsRow base e size (.slice (some ⟨g, 0, none⟩) n cap) n xs) : base ≤ g := by
  rcases h.2 with ⟨h', _⟩ | ⟨g', cap', cur, h', hb, _⟩
  · simp at h'
  · simp only [Value.slice.injEq, Option.some.injEq, Addr.mk.injEq, and_true, true_and] at h'
    obtain ⟨rfl, rfl⟩ := h'
    exact hb
theorem own_ne {g n cap b : Nat} (h : b < g) : (Value.slice (some ⟨g, 0, none⟩) n cap).ownBlock ≠ some b := by
  simp [Value.ownBlock]; omega
theorem new2 (w : World) (o o' : Obj) : ((w.alloc o).alloc o').heap[w.heap.size + 1]? = some o' := by
  have := heap_alloc_new (w.alloc o) o'
  simpa using this

theorem below_two {B : Nat} {w wr w1 : World} {o o' : Obj} {g n cap : Nat} (hb : Below B w wr) (hB : B ≤ wr.heap.size) (hg : ((wr.alloc o).alloc o').drew.grownBy w1 (Value.slice (some ⟨g, 0, none⟩) n cap).ownBlock) (hge : B ≤ g) : Below B w w1 :=
  (((hb.alloc hB o).alloc (by simp; omega) o').drew).grown hg (by simp; omega) (fun k hk => by simp [Value.ownBlock] at hk; omega)

set_option maxRecDepth 100000 in
set_option maxHeartbeats 3200000 in
theorem build_pos (g0 g1 g2 n c0 c1 c2 : Nat) (T U : Nat → ByteArray) (Q : Nat → Nat) (w : World) (hn : 0 < n) (hm : n ≤ 65536)
    (h0 : ∀ i, i < n → w.cell? ⟨g0, i, none⟩ = some (S T i)) (h1 : ∀ i, i < n → w.cell? ⟨g1, i, none⟩ = some (S U i)) (h2 : ∀ i, i < n → w.cell? ⟨g2, i, none⟩ = some (F Q i)) :
    Calls Try.prog 12 #[.slice (some ⟨g0, 0, none⟩) n c0, .slice (some ⟨g1, 0, none⟩) n c1, .slice (some ⟨g2, 0, none⟩) n c2] w fun e w' =>
      Built T U Q w w' e n := by
  obtain ⟨i0, hi, hz0, hz1, hz2⟩ := info_parts info32
  have l0 : g0 < w.heap.size := World.block_lt_of_cell? w _ (h0 0 hn)
  have l1 : g1 < w.heap.size := World.block_lt_of_cell? w _ (h1 0 hn)
  have l2 : g2 < w.heap.size := World.block_lt_of_cell? w _ (h2 0 hn)
  have H0 : Hid (∀ i, i < n → w.cell? ⟨g0, i, none⟩ = some (S T i)) := h0
  have H1 : Hid (∀ i, i < n → w.cell? ⟨g1, i, none⟩ = some (S U i)) := h1
  have H2 : Hid (∀ i, i < n → w.cell? ⟨g2, i, none⟩ = some (F Q i)) := h2
  clear h0 h1 h2
  go_enter Try.func12, Try.ntmps12
  go_wp2_with (at_make; refine wpList_make_own _ rfl _ _ 30 rfl w.heap.size 32 i0 _ 3 Try.underlying30 hi hz0 hz1 _ _ _ n rfl rfl rfl (by rw [hz2]; omega) (by unfold maxLen; omega) (Nat.le_refl _) ?_; intro w1 hown hgrow)
  have HB : BRel T U Q w (.slice (some ⟨w.heap.size, 0, none⟩) 0 n) 0 w1 := ⟨hown, (Below.refl _ _).grown hgrow (Nat.le_refl _) (fun k hk => by cases hk)⟩
  clear hown hgrow
  go_loopw [7, 8] (fun v j wr => ∃ k : Nat, k ≤ n ∧ j = .int .i64 k ∧ ∃ g cap, v = .slice (some ⟨g, 0, none⟩) k cap ∧ BRel T U Q w v k wr) (fun _ j _ => n - (intOf j).toNat)
  case atStart => exact ⟨0, by omega, rfl, _, _, rfl, HB⟩
  case round =>
    obtain ⟨k, hk, rfl, g, cap, rfl, hown, hb⟩ := hrel
    by_cases hlt : k < n
    · have f0 := (hb.cell (p := ⟨g0, k, none⟩) l0).trans (H0.out k hlt)
      have f1 := (hb.cell (p := ⟨g1, k, none⟩) l1).trans (H1.out k hlt)
      have f2 := (hb.cell (p := ⟨g2, k, none⟩) l2).trans (H2.out k hlt)
      unfold S at f0 f1
      unfold F at f2
      have hk0 : (0 : Int) ≤ (k : Int) := Int.natCast_nonneg _
      have hk1 : (k : Int) < (n : Int) := by omega
      have m0 : g0 < wr.heap.size := by have := hb.size; omega
      have m1 : g1 < wr.heap.size := by have := hb.size; omega
      have m2 : g2 < wr.heap.size := by have := hb.size; omega
      have hsz := hb.size
      have hgw := own_ge hown
      go_wp2_with fail
      have a0 : (Value.slice (some ⟨g, 0, none⟩) k cap).ownBlock ≠ some g0 := own_ne (by omega)
      have a1 : (Value.slice (some ⟨g, 0, none⟩) k cap).ownBlock ≠ some g1 := own_ne (by omega)
      have a2 : (Value.slice (some ⟨g, 0, none⟩) k cap).ownBlock ≠ some g2 := own_ne (by omega)
      go_region_held3 (fun w' => w'.cell? ⟨g0, k, none⟩ = some (.string (T k)) ∧ w'.cell? ⟨g1, k, none⟩ = some (.string (U k)) ∧ w'.cell? ⟨g2, k, none⟩ = some (.float .f64 (Q k)))
        (first
          | go_keep
          | (go_split_ands
             refine ⟨?_, ?_, ?_⟩
             · (rw [hgrow.cell_far _ (by simp; omega) (Ne.symm a0)]; assumption)
             · (rw [hgrow.cell_far _ (by simp; omega) (Ne.symm a1)]; assumption)
             · (rw [hgrow.cell_far _ (by simp; omega) (Ne.symm a2)]; assumption)))
        (first
          | (go_at_call 11; refine (ZZRange_any _ _ _ _).mono ?_; rintro e w' ⟨rfl, rfl⟩)
          | (refine step_append_lies _ (by rfl) _ _ _ (by rfl) w.heap.size 32 i0 _ 3 40 Try.underlying30 hi hz0 hz1 hz2 rfl (by omega) (.slice (some ⟨g, 0, none⟩) k cap) k (cellsOf T U Q k) (by rfl) (((hown.alloc _).alloc _).drew)
              ⟨wr.heap.size + 1, 0, none⟩ 1 1 [.string (T k), .string (U k), .float .f64 (Q k)] (by rfl) (by rfl) (World.news_of_block (cs := #[.string (T k), .string (U k), .float .f64 (Q k)]) (t := 32) (fr := (0, 0)) (new2 _ _ _)) (by simp [Value.oneCell'])
              (by omega) (by unfold maxLen; omega) (by omega) (by simp; omega) (wr.heap.size + 2) (by simp) ?_; intro gg cap' w1 hown1 hgrow hat hltg))
      go_wp2
      go_roundw
      case rel => exact ⟨k + 1, by omega, by go_num, gg, cap', rfl, hown1, below_two hb hsz hgrow hgw⟩
      case measure => simp [intOf]; omega
    · have : k = n := by omega
      subst this
      go_wp2
      go_ret
      exact ⟨_, _, rfl, hown, hb⟩

set_option maxHeartbeats 3200000 in
theorem build_zero (a0 a1 a2 : Option Addr) (c0 c1 c2 : Nat) (T U : Nat → ByteArray) (Q : Nat → Nat) (w : World) :
    Calls Try.prog 12 #[.slice a0 0 c0, .slice a1 0 c1, .slice a2 0 c2] w fun e w' =>
      Built T U Q w w' e 0 := by
  obtain ⟨i0, hi, hz0, hz1, hz2⟩ := info_parts info32
  go_enter Try.func12, Try.ntmps12
  go_wp2_with (at_make; refine wpList_make_own _ rfl _ _ 30 rfl w.heap.size 32 i0 _ 3 Try.underlying30 hi hz0 hz1 _ _ _ 0 rfl rfl rfl (by omega) (by unfold maxLen; omega) (Nat.le_refl _) ?_; intro w1 hown hgrow)
  have HB : BRel T U Q w (.slice (some ⟨w.heap.size, 0, none⟩) 0 0) 0 w1 := ⟨hown, (Below.refl _ _).grown hgrow (Nat.le_refl _) (fun k hk => by cases hk)⟩
  have HH : Hid (BRel T U Q w (.slice (some ⟨w.heap.size, 0, none⟩) 0 0) 0 w1) := HB
  clear hown hgrow HB
  go_loop [7, 8] (fun v j => v = .slice (some ⟨w.heap.size, 0, none⟩) 0 0 ∧ j = .int .i64 0) (fun _ _ => 0)
  case atStart => exact ⟨rfl, rfl⟩
  case round =>
    obtain ⟨rfl, rfl⟩ := hrel
    go_wp2
    go_ret
    exact ⟨_, _, rfl, HH.out⟩

set_option maxHeartbeats 400000 in
theorem ZZWeight_any (g n cap : Nat) (T U : Nat → ByteArray) (Q : Nat → Nat) (name typ sub : ByteArray) (w : World)
    (i : Nat) (hix : Lib.indexByte name.data.toList 47 = (i : Int)) (hroom : i + 1 ≤ name.size) (hs : name.size ≤ 9223372036854775807)
    (ht : name.extract 0 i = typ) (hu : name.extract (i + 1) name.size = sub)
    (hn : n ≤ 100000) (hg : 0 < n → g < w.heap.size) (hr : Rngs w g n T U Q) :
    Calls Try.prog 14 #[.slice (some ⟨g, 0, none⟩) n cap, .string name] w fun e w' => e = .returned (.float .f64 (wf T U Q typ sub n).1) ∧ Below w.heap.size w w' := by
  have HX : Hid (Lib.indexByte name.data.toList 47 = (i : Int)) := hix
  have HT : Hid (name.extract 0 i = typ) := ht
  have HU : Hid (name.extract (i + 1) name.size = sub) := hu
  have HR : Hid (Rngs w g n T U Q) := hr
  have HG : Hid (0 < n → g < w.heap.size) := hg
  clear hix ht hu hr hg
  go_enter Try.func14, Try.ntmps14
  go_wp2_with (go_at_call 18; refine (weight_any g n cap T U Q name typ sub w i HX.out hroom hs HT.out HU.out hn HG.out HR.out).mono ?_; rintro e w' ⟨rfl, hb⟩)
  go_ret
  exact ⟨rfl, hb⟩

end Go.Proofs.Qxb6002652a.Wt
