/- arn.Parse -/
import Derived.Test.Qxb6600129aRole
namespace Go.Proofs.Qxb6600129a.Arn
open Go.RowKit
set_option linter.unusedVariables false

set_option maxHeartbeats 1000000 in
theorem Parse_yes (s r0 r1 r2 r3 r4 f0 f1 f2 f3 : ByteArray) (w : World) (hp0 : hp s ⟨#[97, 114, 110, 58]⟩ = true) (e0 : cp s ⟨#[97, 114, 110, 58]⟩ = r0)
    (k0 : cutF 58 r0 = true) (a0 : cutA 58 r0 = f0) (b0 : cutB 58 r0 = r1) (k1 : cutF 58 r1 = true) (a1 : cutA 58 r1 = f1) (b1 : cutB 58 r1 = r2)
    (k2 : cutF 58 r2 = true) (a2 : cutA 58 r2 = f2) (b2 : cutB 58 r2 = r3) (k3 : cutF 58 r3 = true) (a3 : cutA 58 r3 = f3) (b3 : cutB 58 r3 = r4)
    (s0 : r0.size ≤ 9223372036854775807) (s1 : r1.size ≤ 9223372036854775807) (s2 : r2.size ≤ 9223372036854775807) (s3 : r3.size ≤ 9223372036854775807) :
    Calls Try.prog 24 #[.string s] w fun e w' => e = .returned (.tuple #[arnV f0 f1 f2 f3 r4, .bool true]) ∧ Below w.heap.size w w' := by
  unfold arnV
  go_enter Try.func24, Try.ntmps24
  go_wp2_with (go_at_call 29; refine (CutPrefix_any _ _ _).mono ?_; rintro e w' ⟨rfl, rfl⟩)
  refine wp_loop_rounds 5 ?_
  rw [rounds_succ]
  go_wp2_with (go_at_call 30; refine (Cut_any _ 58 s0 _).mono ?_; rintro e w' ⟨rfl, n0, rfl⟩)
  rw [rounds_succ]
  go_wp2_with (go_at_call 30; refine (Cut_any _ 58 s1 _).mono ?_; rintro e w' ⟨rfl, n1, rfl⟩)
  rw [rounds_succ]
  go_wp2_with (go_at_call 30; refine (Cut_any _ 58 s2 _).mono ?_; rintro e w' ⟨rfl, n2, rfl⟩)
  rw [rounds_succ]
  go_wp2_with (go_at_call 30; refine (Cut_any _ 58 s3 _).mono ?_; rintro e w' ⟨rfl, n3, rfl⟩)
  rw [rounds_succ]
  go_wp2
  refine bodyPost_ret (v := .tuple #[.agg #[.string f0, .string f1, .string f2, .string f3, .string r4], .bool true]) (by simp [results, Try.results24, go_sem]) rfl ⟨rfl, ?_⟩
  go_light
  repeat (first | ((with_reducible refine Below.setCell ?_ ?_ _); rotate_left; (· simp)) | (with_reducible refine below_drewN ?_ _) | ((with_reducible refine Below.alloc ?_ ?_ _); rotate_left; (· simp)))
  with_reducible exact Below.refl _ _

set_option maxHeartbeats 1000000 in
theorem Parse_hp (s : ByteArray) (w : World) (hp0 : hp s ⟨#[97, 114, 110, 58]⟩ = false) :
    Calls Try.prog 24 #[.string s] w fun e w' => e = .returned (.tuple #[arnV ⟨#[]⟩ ⟨#[]⟩ ⟨#[]⟩ ⟨#[]⟩ ⟨#[]⟩, .bool false]) ∧ Below w.heap.size w w' := by
  unfold arnV
  go_enter Try.func24, Try.ntmps24
  go_wp2_with (go_at_call 29; refine (CutPrefix_any _ _ _).mono ?_; rintro e w' ⟨rfl, rfl⟩)
  refine bodyPost_ret (v := .tuple #[.agg #[.string ⟨#[]⟩, .string ⟨#[]⟩, .string ⟨#[]⟩, .string ⟨#[]⟩, .string ⟨#[]⟩], .bool false]) (by simp [results, Try.results24, go_sem]) rfl ⟨rfl, ?_⟩
  go_light
  repeat (first | ((with_reducible refine Below.setCell ?_ ?_ _); rotate_left; (· simp)) | (with_reducible refine below_drewN ?_ _) | ((with_reducible refine Below.alloc ?_ ?_ _); rotate_left; (· simp)))
  with_reducible exact Below.refl _ _

set_option maxHeartbeats 1000000 in
theorem Parse_no0 (s r0 : ByteArray) (w : World) (hp0 : hp s ⟨#[97, 114, 110, 58]⟩ = true) (e0 : cp s ⟨#[97, 114, 110, 58]⟩ = r0)
    (k0 : cutF 58 r0 = false)
    (s0 : r0.size ≤ 9223372036854775807) :
    Calls Try.prog 24 #[.string s] w fun e w' => e = .returned (.tuple #[arnV ⟨#[]⟩ ⟨#[]⟩ ⟨#[]⟩ ⟨#[]⟩ ⟨#[]⟩, .bool false]) ∧ Below w.heap.size w w' := by
  unfold arnV
  go_enter Try.func24, Try.ntmps24
  go_wp2_with (go_at_call 29; refine (CutPrefix_any _ _ _).mono ?_; rintro e w' ⟨rfl, rfl⟩)
  refine wp_loop_rounds 1 ?_
  rw [rounds_succ]
  go_wp2_with (go_at_call 30; refine (Cut_any _ 58 s0 _).mono ?_; rintro e w' ⟨rfl, n0, rfl⟩)
  refine bodyPost_ret (v := .tuple #[.agg #[.string ⟨#[]⟩, .string ⟨#[]⟩, .string ⟨#[]⟩, .string ⟨#[]⟩, .string ⟨#[]⟩], .bool false]) (by simp [results, Try.results24, go_sem]) rfl ⟨rfl, ?_⟩
  go_light
  repeat (first | ((with_reducible refine Below.setCell ?_ ?_ _); rotate_left; (· simp)) | (with_reducible refine below_drewN ?_ _) | ((with_reducible refine Below.alloc ?_ ?_ _); rotate_left; (· simp)))
  with_reducible exact Below.refl _ _

set_option maxHeartbeats 1000000 in
theorem Parse_no1 (s r0 r1 f0 : ByteArray) (w : World) (hp0 : hp s ⟨#[97, 114, 110, 58]⟩ = true) (e0 : cp s ⟨#[97, 114, 110, 58]⟩ = r0)
    (k0 : cutF 58 r0 = true) (a0 : cutA 58 r0 = f0) (b0 : cutB 58 r0 = r1) (k1 : cutF 58 r1 = false)
    (s0 : r0.size ≤ 9223372036854775807) (s1 : r1.size ≤ 9223372036854775807) :
    Calls Try.prog 24 #[.string s] w fun e w' => e = .returned (.tuple #[arnV ⟨#[]⟩ ⟨#[]⟩ ⟨#[]⟩ ⟨#[]⟩ ⟨#[]⟩, .bool false]) ∧ Below w.heap.size w w' := by
  unfold arnV
  go_enter Try.func24, Try.ntmps24
  go_wp2_with (go_at_call 29; refine (CutPrefix_any _ _ _).mono ?_; rintro e w' ⟨rfl, rfl⟩)
  refine wp_loop_rounds 2 ?_
  rw [rounds_succ]
  go_wp2_with (go_at_call 30; refine (Cut_any _ 58 s0 _).mono ?_; rintro e w' ⟨rfl, n0, rfl⟩)
  rw [rounds_succ]
  go_wp2_with (go_at_call 30; refine (Cut_any _ 58 s1 _).mono ?_; rintro e w' ⟨rfl, n1, rfl⟩)
  refine bodyPost_ret (v := .tuple #[.agg #[.string ⟨#[]⟩, .string ⟨#[]⟩, .string ⟨#[]⟩, .string ⟨#[]⟩, .string ⟨#[]⟩], .bool false]) (by simp [results, Try.results24, go_sem]) rfl ⟨rfl, ?_⟩
  go_light
  repeat (first | ((with_reducible refine Below.setCell ?_ ?_ _); rotate_left; (· simp)) | (with_reducible refine below_drewN ?_ _) | ((with_reducible refine Below.alloc ?_ ?_ _); rotate_left; (· simp)))
  with_reducible exact Below.refl _ _

set_option maxHeartbeats 1000000 in
theorem Parse_no2 (s r0 r1 r2 f0 f1 : ByteArray) (w : World) (hp0 : hp s ⟨#[97, 114, 110, 58]⟩ = true) (e0 : cp s ⟨#[97, 114, 110, 58]⟩ = r0)
    (k0 : cutF 58 r0 = true) (a0 : cutA 58 r0 = f0) (b0 : cutB 58 r0 = r1) (k1 : cutF 58 r1 = true) (a1 : cutA 58 r1 = f1) (b1 : cutB 58 r1 = r2) (k2 : cutF 58 r2 = false)
    (s0 : r0.size ≤ 9223372036854775807) (s1 : r1.size ≤ 9223372036854775807) (s2 : r2.size ≤ 9223372036854775807) :
    Calls Try.prog 24 #[.string s] w fun e w' => e = .returned (.tuple #[arnV ⟨#[]⟩ ⟨#[]⟩ ⟨#[]⟩ ⟨#[]⟩ ⟨#[]⟩, .bool false]) ∧ Below w.heap.size w w' := by
  unfold arnV
  go_enter Try.func24, Try.ntmps24
  go_wp2_with (go_at_call 29; refine (CutPrefix_any _ _ _).mono ?_; rintro e w' ⟨rfl, rfl⟩)
  refine wp_loop_rounds 3 ?_
  rw [rounds_succ]
  go_wp2_with (go_at_call 30; refine (Cut_any _ 58 s0 _).mono ?_; rintro e w' ⟨rfl, n0, rfl⟩)
  rw [rounds_succ]
  go_wp2_with (go_at_call 30; refine (Cut_any _ 58 s1 _).mono ?_; rintro e w' ⟨rfl, n1, rfl⟩)
  rw [rounds_succ]
  go_wp2_with (go_at_call 30; refine (Cut_any _ 58 s2 _).mono ?_; rintro e w' ⟨rfl, n2, rfl⟩)
  refine bodyPost_ret (v := .tuple #[.agg #[.string ⟨#[]⟩, .string ⟨#[]⟩, .string ⟨#[]⟩, .string ⟨#[]⟩, .string ⟨#[]⟩], .bool false]) (by simp [results, Try.results24, go_sem]) rfl ⟨rfl, ?_⟩
  go_light
  repeat (first | ((with_reducible refine Below.setCell ?_ ?_ _); rotate_left; (· simp)) | (with_reducible refine below_drewN ?_ _) | ((with_reducible refine Below.alloc ?_ ?_ _); rotate_left; (· simp)))
  with_reducible exact Below.refl _ _

set_option maxHeartbeats 1000000 in
theorem Parse_no3 (s r0 r1 r2 r3 f0 f1 f2 : ByteArray) (w : World) (hp0 : hp s ⟨#[97, 114, 110, 58]⟩ = true) (e0 : cp s ⟨#[97, 114, 110, 58]⟩ = r0)
    (k0 : cutF 58 r0 = true) (a0 : cutA 58 r0 = f0) (b0 : cutB 58 r0 = r1) (k1 : cutF 58 r1 = true) (a1 : cutA 58 r1 = f1) (b1 : cutB 58 r1 = r2) (k2 : cutF 58 r2 = true) (a2 : cutA 58 r2 = f2) (b2 : cutB 58 r2 = r3) (k3 : cutF 58 r3 = false)
    (s0 : r0.size ≤ 9223372036854775807) (s1 : r1.size ≤ 9223372036854775807) (s2 : r2.size ≤ 9223372036854775807) (s3 : r3.size ≤ 9223372036854775807) :
    Calls Try.prog 24 #[.string s] w fun e w' => e = .returned (.tuple #[arnV ⟨#[]⟩ ⟨#[]⟩ ⟨#[]⟩ ⟨#[]⟩ ⟨#[]⟩, .bool false]) ∧ Below w.heap.size w w' := by
  unfold arnV
  go_enter Try.func24, Try.ntmps24
  go_wp2_with (go_at_call 29; refine (CutPrefix_any _ _ _).mono ?_; rintro e w' ⟨rfl, rfl⟩)
  refine wp_loop_rounds 4 ?_
  rw [rounds_succ]
  go_wp2_with (go_at_call 30; refine (Cut_any _ 58 s0 _).mono ?_; rintro e w' ⟨rfl, n0, rfl⟩)
  rw [rounds_succ]
  go_wp2_with (go_at_call 30; refine (Cut_any _ 58 s1 _).mono ?_; rintro e w' ⟨rfl, n1, rfl⟩)
  rw [rounds_succ]
  go_wp2_with (go_at_call 30; refine (Cut_any _ 58 s2 _).mono ?_; rintro e w' ⟨rfl, n2, rfl⟩)
  rw [rounds_succ]
  go_wp2_with (go_at_call 30; refine (Cut_any _ 58 s3 _).mono ?_; rintro e w' ⟨rfl, n3, rfl⟩)
  refine bodyPost_ret (v := .tuple #[.agg #[.string ⟨#[]⟩, .string ⟨#[]⟩, .string ⟨#[]⟩, .string ⟨#[]⟩, .string ⟨#[]⟩], .bool false]) (by simp [results, Try.results24, go_sem]) rfl ⟨rfl, ?_⟩
  go_light
  repeat (first | ((with_reducible refine Below.setCell ?_ ?_ _); rotate_left; (· simp)) | (with_reducible refine below_drewN ?_ _) | ((with_reducible refine Below.alloc ?_ ?_ _); rotate_left; (· simp)))
  with_reducible exact Below.refl _ _

/-- what is left behind the first k colons behind the head -/
def R (s : ByteArray) : Nat → ByteArray
  | 0 => cp s ⟨#[97, 114, 110, 58]⟩
  | k + 1 => cutB 58 (R s k)
def okP (s : ByteArray) : Bool := hp s ⟨#[97, 114, 110, 58]⟩ && cutF 58 (R s 0) && cutF 58 (R s 1) && cutF 58 (R s 2) && cutF 58 (R s 3)
def emp : ByteArray := ⟨#[]⟩
/-- the fields that Parse hands back -/
def fld (s : ByteArray) (k : Nat) : ByteArray := if okP s then (if k = 4 then R s 4 else cutA 58 (R s k)) else emp

theorem cutB_size (c : UInt8) (s : ByteArray) : (cutB c s).size ≤ s.size := by
  unfold cutB
  split
  · exact Nat.zero_le _
  · simp
theorem cutA_size (c : UInt8) (s : ByteArray) : (cutA c s).size ≤ s.size := by
  unfold cutA
  split
  · omega
  · simp; omega
theorem R_size (s : ByteArray) : ∀ k, (R s k).size ≤ s.size
  | 0 => cp_size s _
  | k + 1 => Nat.le_trans (cutB_size 58 (R s k)) (R_size s k)
theorem fld_size (s : ByteArray) (k : Nat) : (fld s k).size ≤ s.size := by
  unfold fld
  split
  · split
    · exact R_size s 4
    · exact Nat.le_trans (cutA_size 58 _) (R_size s k)
  · exact Nat.zero_le _

theorem Parse_any (s : ByteArray) (w : World) (hs : s.size ≤ 9223372036854775807) :
    Calls Try.prog 24 #[.string s] w fun e w' => e = .returned (.tuple #[arnV (fld s 0) (fld s 1) (fld s 2) (fld s 3) (fld s 4), .bool (okP s)]) ∧ Below w.heap.size w w' := by
  have z : ∀ k, (R s k).size ≤ 9223372036854775807 := fun k => Nat.le_trans (R_size s k) hs
  have fno : okP s = false → ∀ k, fld s k = ⟨#[]⟩ := fun h k => by unfold fld; rw [h]; rfl
  cases h : hp s ⟨#[97, 114, 110, 58]⟩ with
  | false =>
    have ho : okP s = false := by unfold okP; rw [h]; rfl
    rw [ho]; simp only [fno ho]
    exact Parse_hp s w h
  | true =>
  cases k0 : cutF 58 (R s 0) with
  | false =>
    have ho : okP s = false := by unfold okP; rw [k0]; simp
    rw [ho]; simp only [fno ho]
    exact Parse_no0 s (R s 0) w h rfl k0 (z 0)
  | true =>
  cases k1 : cutF 58 (R s 1) with
  | false =>
    have ho : okP s = false := by unfold okP; rw [k1]; simp
    rw [ho]; simp only [fno ho]
    exact Parse_no1 s (R s 0) (R s 1) _ w h rfl k0 rfl rfl k1 (z 0) (z 1)
  | true =>
  cases k2 : cutF 58 (R s 2) with
  | false =>
    have ho : okP s = false := by unfold okP; rw [k2]; simp
    rw [ho]; simp only [fno ho]
    exact Parse_no2 s (R s 0) (R s 1) (R s 2) _ _ w h rfl k0 rfl rfl k1 rfl rfl k2 (z 0) (z 1) (z 2)
  | true =>
  cases k3 : cutF 58 (R s 3) with
  | false =>
    have ho : okP s = false := by unfold okP; rw [k3]; simp
    rw [ho]; simp only [fno ho]
    exact Parse_no3 s (R s 0) (R s 1) (R s 2) (R s 3) _ _ _ w h rfl k0 rfl rfl k1 rfl rfl k2 rfl rfl k3 (z 0) (z 1) (z 2) (z 3)
  | true =>
    have ho : okP s = true := by unfold okP; rw [h, k0, k1, k2, k3]; rfl
    have e : ∀ k, fld s k = (if k = 4 then R s 4 else cutA 58 (R s k)) := fun k => by unfold fld; rw [ho]; rfl
    rw [ho, e 0, e 1, e 2, e 3, e 4]
    exact Parse_yes s (R s 0) (R s 1) (R s 2) (R s 3) (R s 4) _ _ _ _ w h rfl k0 rfl rfl k1 rfl rfl k2 rfl rfl k3 rfl rfl (z 0) (z 1) (z 2) (z 3)

end Go.Proofs.Qxb6600129a.Arn
