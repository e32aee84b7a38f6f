/- SessionRole, Role: they return; Role says yes only to a resource that begins with its head -/
import Derived.Test.Qxb6600129aFns
import Derived.Deep.RegionHeld3
namespace Go.Proofs.Qxb6600129a.Arn
open Go.RowKit
set_option linter.unusedVariables false

/-- a string and a bool of which g is told where it is true -/
def SB (e : Ending) (g : Prop) : Prop := ∃ r b, e = .returned (.tuple #[.string r, .bool b]) ∧ (b = true → g)

set_option maxHeartbeats 2000000 in
theorem SessionRole_any (p s r a x : ByteArray) (w : World) (hx : x.size ≤ 1000000000) :
    Calls Try.prog 25 #[arnV p s r a x] w fun e w' => SB e True ∧ Below w.heap.size w w' := by
  have hsz := cp_size x ⟨#[97, 115, 115, 117, 109, 101, 100, 45, 114, 111, 108, 101, 47]⟩
  unfold arnV
  go_enter Try.func25, Try.ntmps25
  go_wp2_with (first | (go_at_call 29; refine (CutPrefix_any _ _ _).mono ?_; rintro e w' ⟨rfl, rfl⟩) | (go_at_call 30; refine (Cut_any _ 47 (by omega) _).mono ?_; rintro e w' ⟨rfl, n, rfl⟩) | (go_at_call 31; refine (global_any _ _ _ _ _ _ _).mono ?_; rintro e w1 ⟨rfl, hb⟩))
  · go_ret2
    exact ⟨⟨_, _, rfl, fun _ => trivial⟩, (below_drewN ((Below.refl _ _).alloc (Nat.le_refl _) _) n).trans (hb.mono (by simp))⟩
  · go_ret2
    exact ⟨⟨_, _, rfl, fun _ => trivial⟩, below_drewN ((Below.refl _ _).alloc (Nat.le_refl _) _) n⟩
  · go_ret2
    exact ⟨⟨_, _, rfl, fun _ => trivial⟩, below_drewN ((Below.refl _ _).alloc (Nat.le_refl _) _) n⟩

theorem wrap_in {n : Int} (h0 : 0 ≤ n) (h1 : n ≤ 1000000000) : IntKind.i64.wrap n = n :=
  IntWalk.i64_in n ⟨by omega, by omega⟩

theorem lix_bd (s : ByteArray) (c : Int) : 0 ≤ lix s c + 1 ∧ lix s c + 1 ≤ (s.size : Int) := by
  have := lx_bd s c s.size
  unfold lix
  omega

set_option maxHeartbeats 2000000 in
theorem Role_no (p s r a x : ByteArray) (w : World) (hx : x.size ≤ 1000000000) (hh : hp x ⟨#[114, 111, 108, 101, 47]⟩ = false) :
    Calls Try.prog 26 #[arnV p s r a x] w fun e w' => SB e False ∧ Below w.heap.size w w' := by
  have hsz := cp_size x ⟨#[114, 111, 108, 101, 47]⟩
  obtain ⟨b1, b2⟩ := lix_bd (cp x ⟨#[114, 111, 108, 101, 47]⟩) 47
  unfold arnV
  go_enter Try.func26, Try.ntmps26
  go_wp2_with (go_at_call 29; refine (CutPrefix_any _ _ _).mono ?_; rintro e w' ⟨rfl, rfl⟩)
  go_quiet ((go_at_call 32; exact Calls.quiet_of_same (Last_any _ _ _ (by omega))))
  go_wp2
  go_ret2
  exact ⟨⟨_, _, rfl, fun h => by cases h⟩, below_drewN ((Below.refl _ _).alloc (Nat.le_refl _) _) _⟩

set_option maxHeartbeats 2000000 in
theorem Role_yes (p s r a x : ByteArray) (w : World) (hx : x.size ≤ 1000000000) (hh : hp x ⟨#[114, 111, 108, 101, 47]⟩ = true) :
    Calls Try.prog 26 #[arnV p s r a x] w fun e w' => SB e True ∧ Below w.heap.size w w' := by
  have hsz := cp_size x ⟨#[114, 111, 108, 101, 47]⟩
  obtain ⟨b1, b2⟩ := lix_bd (cp x ⟨#[114, 111, 108, 101, 47]⟩) 47
  have hwr : IntKind.i64.wrap (lix (cp x ⟨#[114, 111, 108, 101, 47]⟩) 47 + 1) = lix (cp x ⟨#[114, 111, 108, 101, 47]⟩) 47 + 1 := wrap_in b1 (by omega)
  unfold arnV
  go_enter Try.func26, Try.ntmps26
  go_wp2_with (go_at_call 29; refine (CutPrefix_any _ _ _).mono ?_; rintro e w' ⟨rfl, rfl⟩)
  go_region_held3 (fun w' => w'.cell? ⟨w.heap.size, 0, none⟩ = some (.string p) ∧ w'.cell? ⟨w.heap.size, 1, none⟩ = some (.string s) ∧ w'.cell? ⟨w.heap.size, 2, none⟩ = some (.string r) ∧ w'.cell? ⟨w.heap.size, 3, none⟩ = some (.string a) ∧ w'.cell? ⟨w.heap.size, 4, none⟩ = some (.string x))
    (go_keep)
    (first
      | (go_at_call 32; refine (Last_any _ _ _ (by omega)).mono ?_; rintro e w' ⟨rfl, rfl⟩)
      | (go_at_call 31; refine (global_any _ _ _ _ _ _ _).mono ?_; rintro e w1 ⟨rfl, hb⟩; obtain ⟨hc1, hf1⟩ := bcell hb))
  go_wp2
  go_ret2
  exact ⟨⟨_, _, rfl, fun _ => trivial⟩, (((Below.refl _ _).alloc (Nat.le_refl _) _).drew).trans (hb.mono (by simp))⟩

theorem Role_any (p s r a x : ByteArray) (w : World) (hx : x.size ≤ 1000000000) :
    Calls Try.prog 26 #[arnV p s r a x] w fun e w' => SB e (hp x ⟨#[114, 111, 108, 101, 47]⟩ = true) ∧ Below w.heap.size w w' := by
  cases hh : hp x ⟨#[114, 111, 108, 101, 47]⟩ with
  | false =>
    refine (Role_no p s r a x w hx hh).mono ?_
    rintro e w' ⟨⟨r, b, he, hb⟩, h⟩
    exact ⟨⟨r, b, he, fun k => (hb k).elim⟩, h⟩
  | true =>
    refine (Role_yes p s r a x w hx hh).mono ?_
    rintro e w' ⟨⟨r, b, he, hb⟩, h⟩
    exact ⟨⟨r, b, he, fun k => rfl⟩, h⟩

end Go.Proofs.Qxb6600129a.Arn
