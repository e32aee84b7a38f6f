/- weight over a row of media ranges, as a fold -/
import Derived.Test.Qxb6002652aCut
namespace Go.Proofs.Qxb6002652a.Wt
open Go.RowKit
set_option linter.unusedVariables false
attribute [local go_sem] run_store_float

/-- how specific a range is to typ/sub -/
def spec (rt rs typ sub : ByteArray) : Int :=
  if rt.toList = typ.toList ∧ rs.toList = sub.toList then 3 else if rt.toList = typ.toList ∧ rs.toList = [42] then 2 else if rt.toList = [42] then 1 else 0

theorem sp3 {rt rs typ sub : ByteArray} (a : rt.toList = typ.toList) (b : rs.toList = sub.toList) : spec rt rs typ sub = 3 := by
  unfold spec; rw [if_pos ⟨a, b⟩]
theorem sp2 {rt rs typ sub : ByteArray} (a : rt.toList = typ.toList) (b : ¬ rs.toList = sub.toList) (c : rs.toList = [42]) : spec rt rs typ sub = 2 := by
  unfold spec; rw [if_neg (fun h => b h.2), if_pos ⟨a, c⟩]
theorem sp1 {rt rs typ sub : ByteArray} (a : rt.toList = typ.toList) (b : ¬ rs.toList = sub.toList) (c : ¬ rs.toList = [42]) (d : typ.toList = [42]) : spec rt rs typ sub = 1 := by
  unfold spec; rw [if_neg (fun h => b h.2), if_neg (fun h => c h.2), if_pos (a.trans d)]
theorem sp1' {rt rs typ sub : ByteArray} (a : ¬ rt.toList = typ.toList) (d : rt.toList = [42]) : spec rt rs typ sub = 1 := by
  unfold spec; rw [if_neg (fun h => a h.1), if_neg (fun h => a h.1), if_pos d]
theorem sp0 {rt rs typ sub : ByteArray} (a : rt.toList = typ.toList) (b : ¬ rs.toList = sub.toList) (c : ¬ rs.toList = [42]) (d : ¬ typ.toList = [42]) : spec rt rs typ sub = 0 := by
  unfold spec; rw [if_neg (fun h => b h.2), if_neg (fun h => c h.2), if_neg (fun h => d (a.symm.trans h))]
theorem sp0' {rt rs typ sub : ByteArray} (a : ¬ rt.toList = typ.toList) (d : ¬ rt.toList = [42]) : spec rt rs typ sub = 0 := by
  unfold spec; rw [if_neg (fun h => a h.1), if_neg (fun h => a h.1), if_neg d]

/-- (the weight, its specificity) behind the first k ranges -/
def wf (T U : Nat → ByteArray) (Q : Nat → Nat) (typ sub : ByteArray) : Nat → Nat × Int
  | 0 => (0, 0)
  | k + 1 => if (wf T U Q typ sub k).2 < spec (T k) (U k) typ sub then (Q k, spec (T k) (U k) typ sub) else wf T U Q typ sub k

theorem wf_up {T U : Nat → ByteArray} {Q : Nat → Nat} {typ sub : ByteArray} {k : Nat} {s : Int} (h : spec (T k) (U k) typ sub = s) (hl : (wf T U Q typ sub k).2 < s) : wf T U Q typ sub (k + 1) = (Q k, s) := by
  show (if _ then _ else _) = _
  rw [h, if_pos hl]
theorem wf_stay {T U : Nat → ByteArray} {Q : Nat → Nat} {typ sub : ByteArray} {k : Nat} {s : Int} (h : spec (T k) (U k) typ sub = s) (hl : s ≤ (wf T U Q typ sub k).2) : wf T U Q typ sub (k + 1) = wf T U Q typ sub k := by
  show (if _ then _ else _) = _
  rw [h, if_neg (by omega)]

/-- the ranges lie in block g, three cells each, from its head on -/
def Rngs (w : World) (g n : Nat) (T U : Nat → ByteArray) (Q : Nat → Nat) : Prop :=
  ∀ k, k < n → w.cell? ⟨g, k * 3, none⟩ = some (.string (T k)) ∧ w.cell? ⟨g, k * 3 + 1, none⟩ = some (.string (U k)) ∧ w.cell? ⟨g, k * 3 + 2, none⟩ = some (.float .f64 (Q k))

set_option maxHeartbeats 4000000 in
theorem weight_any (g n cap : Nat) (T U : Nat → ByteArray) (Q : Nat → Nat) (name typ sub : ByteArray) (w : World)
    (i : Nat) (hix : Lib.indexByte name.data.toList 47 = (i : Int)) (hroom : i + 1 ≤ name.size) (hs : name.size ≤ 9223372036854775807)
    (ht : name.extract 0 i = typ) (hu : name.extract (i + 1) name.size = sub)
    (hn : n ≤ 100000) (hg : 0 < n → g < w.heap.size) (hr : Rngs w g n T U Q) :
    Calls Try.prog 18 #[.slice (some ⟨g, 0, none⟩) n cap, .string name] w fun e w' => e = .returned (.float .f64 (wf T U Q typ sub n).1) ∧ Below w.heap.size w w' := by
  have HX : Hid (Lib.indexByte name.data.toList 47 = (i : Int)) := hix
  have HT : Hid (name.extract 0 i = typ) := ht
  have HU : Hid (name.extract (i + 1) name.size = sub) := hu
  have HR : Hid (Rngs w g n T U Q) := hr
  have HG : Hid (0 < n → g < w.heap.size) := hg
  clear hix ht hu hr hg
  go_enter Try.func18, Try.ntmps18
  go_wp2_with (go_at_call 19; refine (Cut_hit name i HX.out hroom hs _).mono ?_; rintro e w' ⟨rfl, m, rfl⟩; rw [HT.out, HU.out])
  go_loopw [8, 9, 21] (fun q sp j wr => ∃ k : Nat, k ≤ n ∧ j = .int .i64 k ∧ q = .float .f64 (wf T U Q typ sub k).1 ∧ sp = .int .i64 (wf T U Q typ sub k).2 ∧ Below w.heap.size w wr) (fun _ _ j _ => n - (intOf j).toNat)
  case atStart => exact ⟨0, by omega, rfl, rfl, rfl, below_drewN (Below.refl _ _) _⟩
  case round =>
    obtain ⟨k, hk, rfl, rfl, rfl, hb⟩ := hrel
    by_cases hlt : k < n
    · have hgw := HG.out (by omega)
      obtain ⟨e0, e1, e2⟩ := HR.out k hlt
      have f0 := (hb.cell (p := ⟨g, k * 3, none⟩) hgw).trans e0
      have f1 := (hb.cell (p := ⟨g, k * 3 + 1, none⟩) hgw).trans e1
      have f2 := (hb.cell (p := ⟨g, k * 3 + 2, none⟩) hgw).trans e2
      clear e0 e1 e2
      go_wp2
      all_goals
        go_roundw
        case rel =>
          go_light
          simp only [beq_iff_eq, beq_eq_false_iff_ne, ne_eq] at *
          first
            | (have hsp := sp3 (show (T k).toList = typ.toList by assumption) (show (U k).toList = sub.toList by assumption)
               first | (have W := wf_up (Q := Q) hsp (by assumption); exact ⟨k + 1, by omega, by go_num, by rw [W], by rw [W], hb.alloc hb.size _⟩) | (have W := wf_stay (Q := Q) hsp (by assumption); exact ⟨k + 1, by omega, by go_num, by rw [W], by rw [W], hb.alloc hb.size _⟩))
            | (have hsp := sp2 (show (T k).toList = typ.toList by assumption) (show ¬ (U k).toList = sub.toList by assumption) (show (U k).toList = [42] by assumption)
               first | (have W := wf_up (Q := Q) hsp (by assumption); exact ⟨k + 1, by omega, by go_num, by rw [W], by rw [W], hb.alloc hb.size _⟩) | (have W := wf_stay (Q := Q) hsp (by assumption); exact ⟨k + 1, by omega, by go_num, by rw [W], by rw [W], hb.alloc hb.size _⟩))
            | (have hsp := sp1 (show (T k).toList = typ.toList by assumption) (show ¬ (U k).toList = sub.toList by assumption) (show ¬ (U k).toList = [42] by assumption) (show typ.toList = [42] by assumption)
               first | (have W := wf_up (Q := Q) hsp (by assumption); exact ⟨k + 1, by omega, by go_num, by rw [W], by rw [W], hb.alloc hb.size _⟩) | (have W := wf_stay (Q := Q) hsp (by assumption); exact ⟨k + 1, by omega, by go_num, by rw [W], by rw [W], hb.alloc hb.size _⟩))
            | (have hsp := sp0 (show (T k).toList = typ.toList by assumption) (show ¬ (U k).toList = sub.toList by assumption) (show ¬ (U k).toList = [42] by assumption) (show ¬ typ.toList = [42] by assumption)
               first | (have W := wf_up (Q := Q) hsp (by assumption); exact ⟨k + 1, by omega, by go_num, by rw [W], by rw [W], hb.alloc hb.size _⟩) | (have W := wf_stay (Q := Q) hsp (by assumption); exact ⟨k + 1, by omega, by go_num, by rw [W], by rw [W], hb.alloc hb.size _⟩))
            | (have hsp := sp1' (rs := U k) (sub := sub) (show ¬ (T k).toList = typ.toList by assumption) (show (T k).toList = [42] by assumption)
               first | (have W := wf_up (Q := Q) hsp (by assumption); exact ⟨k + 1, by omega, by go_num, by rw [W], by rw [W], hb.alloc hb.size _⟩) | (have W := wf_stay (Q := Q) hsp (by assumption); exact ⟨k + 1, by omega, by go_num, by rw [W], by rw [W], hb.alloc hb.size _⟩))
            | (have hsp := sp0' (rs := U k) (sub := sub) (show ¬ (T k).toList = typ.toList by assumption) (show ¬ (T k).toList = [42] by assumption)
               first | (have W := wf_up (Q := Q) hsp (by assumption); exact ⟨k + 1, by omega, by go_num, by rw [W], by rw [W], hb.alloc hb.size _⟩) | (have W := wf_stay (Q := Q) hsp (by assumption); exact ⟨k + 1, by omega, by go_num, by rw [W], by rw [W], hb.alloc hb.size _⟩))
        case measure => simp [intOf]; omega
    · go_wp2
      have : k = n := by omega
      subst this
      go_ret
      exact ⟨rfl, hb⟩

end Go.Proofs.Qxb6002652a.Wt
