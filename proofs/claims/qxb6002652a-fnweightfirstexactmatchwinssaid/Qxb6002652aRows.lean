/-
  No cell of these rows narrows 'for every input' (looked for: loops, veiled, ifaces, maps, wideKeys, modest, calm, conditions, laid).
  DERIVED. THE GIVEN ROWS OF THIS SEAT. 3 by the template 'for every input the law returns true; each argument reads behind the call as it read before'; 0 by the template 'total and deterministic' (their statements: Qxb6002652aTotals.lean).
  GIVEN WITH THE SEED: the statements are not yours to turn. If you find one false, say at which input.
  Laid BY PROGRAM, IN A SANDBOX (cutbox-rows.mjs): the forced cells as the released guide's own fill.sh prints them over the translation 01b0cb40ed3210e8… (all of the seat's roots in one cut). By AI agents, Wed Nov 11 2026. No macro, syntax, notation, axiom, sorry.
-/
import Derived.Test.Qxb6002652aChecked
import GoSem.Claim
import GoSem.ClaimJoined
import GoSem.ClaimMapViews
import Derived.JoinedTies
import Derived.KernelRfl
namespace Go.Proofs.Qxb6002652a
/- THE CELL 'sum', in the pinned program and in every row, IS THE sha256 OF THE DUMP (.gsa) THAT Qxb6002652aProg.lean LOADS. Nothing in Lean hashes anything: it is a label: what it is worth is what the hold of that sum in a sandbox is worth. -/
noncomputable def Try.pinned : Pinned := { name := "qxb6002652a", sum := "01b0cb40ed3210e8bfc8b5bfa556eca687f714f50e4d8d727313dad6d3da2e67", checked := Try.checked }
namespace Rows
def none {H : Type} : Left H := { results := [], args := [] }

/-- 'zzlaws_root_b1.FnWeightFirstExactMatchWins': WHATEVER THE INPUT: true; the input reads as it did. -/
def fnWeightFirstExactMatchWinsSpec : ChangeSpec := { name := "fnWeightFirstExactMatchWins", fn := fun _ => fun
  | [d1, d2, d3, d4, d5, d6] => { results := [.lit (.bool true)], args := [d1, d2, d3, d4, d5, d6] }
  | _ => none }
def fnWeightFirstExactMatchWinsRow : OpenClaim := { program := "qxb6002652a", sum := "01b0cb40ed3210e8bfc8b5bfa556eca687f714f50e4d8d727313dad6d3da2e67", func := "example.com/resolvent/resolvent/zzlaws_root_b1.FnWeightFirstExactMatchWins", spec := "fnWeightFirstExactMatchWins", inPlace := ["internal/bytealg.IndexByteString", "internal/bytealg.IndexString"], named := ["internal/bytealg.MaxLen"], apart := false }
def FnWeightFirstExactMatchWinsSaid : Prop := fnWeightFirstExactMatchWinsRow.holds Try.pinned (OpenSpec.ofChange fnWeightFirstExactMatchWinsSpec)

/-- ITS FALSE NEIGHBOUR: 'it returns false'. Refute it at one input. -/
def fnWeightFirstExactMatchWinsWrong : ChangeSpec := { name := "fnWeightFirstExactMatchWins", fn := fun _ => fun
  | [d1, d2, d3, d4, d5, d6] => { results := [.lit (.bool false)], args := [d1, d2, d3, d4, d5, d6] }
  | _ => none }
def FnWeightFirstExactMatchWinsWrongFalsely : Prop := fnWeightFirstExactMatchWinsRow.holds Try.pinned (OpenSpec.ofChange fnWeightFirstExactMatchWinsWrong)

/-- 'zzlaws_root_b1.FnWeightIgnoresForeignRanges': WHATEVER THE INPUT: true; the input reads as it did. -/
def fnWeightIgnoresForeignRangesSpec : ChangeSpec := { name := "fnWeightIgnoresForeignRanges", fn := fun _ => fun
  | [d1, d2, d3, d4, d5, d6, d7, d8, d9] => { results := [.lit (.bool true)], args := [d1, d2, d3, d4, d5, d6, d7, d8, d9] }
  | _ => none }
def fnWeightIgnoresForeignRangesRow : OpenClaim := { program := "qxb6002652a", sum := "01b0cb40ed3210e8bfc8b5bfa556eca687f714f50e4d8d727313dad6d3da2e67", func := "example.com/resolvent/resolvent/zzlaws_root_b1.FnWeightIgnoresForeignRanges", spec := "fnWeightIgnoresForeignRanges", inPlace := ["internal/bytealg.IndexByteString", "internal/bytealg.IndexString"], named := ["internal/bytealg.MaxLen"], apart := false }
def FnWeightIgnoresForeignRangesSaid : Prop := fnWeightIgnoresForeignRangesRow.holds Try.pinned (OpenSpec.ofChange fnWeightIgnoresForeignRangesSpec)

/-- ITS FALSE NEIGHBOUR: 'it returns false'. Refute it at one input. -/
def fnWeightIgnoresForeignRangesWrong : ChangeSpec := { name := "fnWeightIgnoresForeignRanges", fn := fun _ => fun
  | [d1, d2, d3, d4, d5, d6, d7, d8, d9] => { results := [.lit (.bool false)], args := [d1, d2, d3, d4, d5, d6, d7, d8, d9] }
  | _ => none }
def FnWeightIgnoresForeignRangesWrongFalsely : Prop := fnWeightIgnoresForeignRangesRow.holds Try.pinned (OpenSpec.ofChange fnWeightIgnoresForeignRangesWrong)

/-- 'zzlaws_root_b1.FnWeightIsAMatchingWeightOrZero': WHATEVER THE INPUT: true; the input reads as it did. -/
def fnWeightIsAMatchingWeightOrZeroSpec : ChangeSpec := { name := "fnWeightIsAMatchingWeightOrZero", fn := fun _ => fun
  | [d1, d2, d3, d4, d5] => { results := [.lit (.bool true)], args := [d1, d2, d3, d4, d5] }
  | _ => none }
def fnWeightIsAMatchingWeightOrZeroRow : OpenClaim := { program := "qxb6002652a", sum := "01b0cb40ed3210e8bfc8b5bfa556eca687f714f50e4d8d727313dad6d3da2e67", func := "example.com/resolvent/resolvent/zzlaws_root_b1.FnWeightIsAMatchingWeightOrZero", spec := "fnWeightIsAMatchingWeightOrZero", inPlace := ["internal/bytealg.IndexByteString", "internal/bytealg.IndexString"], named := ["internal/bytealg.MaxLen"], apart := false }
def FnWeightIsAMatchingWeightOrZeroSaid : Prop := fnWeightIsAMatchingWeightOrZeroRow.holds Try.pinned (OpenSpec.ofChange fnWeightIsAMatchingWeightOrZeroSpec)

/-- ITS FALSE NEIGHBOUR: 'it returns false'. Refute it at one input. -/
def fnWeightIsAMatchingWeightOrZeroWrong : ChangeSpec := { name := "fnWeightIsAMatchingWeightOrZero", fn := fun _ => fun
  | [d1, d2, d3, d4, d5] => { results := [.lit (.bool false)], args := [d1, d2, d3, d4, d5] }
  | _ => none }
def FnWeightIsAMatchingWeightOrZeroWrongFalsely : Prop := fnWeightIsAMatchingWeightOrZeroRow.holds Try.pinned (OpenSpec.ofChange fnWeightIsAMatchingWeightOrZeroWrong)

end Rows
end Go.Proofs.Qxb6002652a
