/- What the walks of this seat are told of a slice; small helpers. -/
import Derived.Test.Qxb6002652aRows
import Derived.WalkKit
import Derived.WalkSpells
import Derived.WalkLawsBesides
import Derived.Deep.Light
namespace Go.Proofs.Qxb6002652a.Wt
open Go.RowKit

/-- a slice value '.slice ao n cap' whose elements are one cell each: element i is f i -/
def Row (f : Nat → Value) (w : World) (ao : Option Addr) (n : Nat) : Prop :=
  n ≤ 9223372036854775807 ∧ (0 < n → ∃ b o, ao = some ⟨b, o, none⟩ ∧ ∀ i, i < n → w.cell? ⟨b, o + i, none⟩ = some (f i))

theorem Row.at {f : Nat → Value} {w : World} {ao : Option Addr} {n k : Nat} (R : Row f w ao n) (h : k < n) :
    ∃ b o, ao = some ⟨b, o, none⟩ ∧ w.cell? ⟨b, o + k, none⟩ = some (f k) := by
  obtain ⟨b, o, e, hc⟩ := R.2 (by omega)
  exact ⟨b, o, e, hc k h⟩

theorem ret_bool {a b : Bool} (h : a = b) : Ending.returned (.bool a) = .returned (.bool b) := by rw [h]

/-- it returns a bool of which g is told where it is true -/
def RB (e : Ending) (g : Prop) : Prop := ∃ b, e = .returned (.bool b) ∧ (b = true → g)
theorem RB.f {g : Prop} : RB (.returned (.bool false)) g := ⟨false, rfl, fun h => by cases h⟩
theorem RB.of {b : Bool} {g : Prop} (h : g) : RB (.returned (.bool b)) g := ⟨b, rfl, fun _ => h⟩

def S (T : Nat → ByteArray) : Nat → Value := fun i => .string (T i)
def F (Q : Nat → Nat) : Nat → Value := fun i => .float .f64 (Q i)

/-- a float stored into a cell (the kit's laws name integers, bools, pointers, slices and strings) -/
theorem run_store_float (P : Program) (w : World) (a : Addr) (m : Mode) (k : FloatKind) (q : Nat) : (store a (.float k q) m).run P w = stored P w a (.float k q) m := run_store P w a _ m rfl

end Go.Proofs.Qxb6002652a.Wt
