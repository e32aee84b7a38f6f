/- strings.Cut(s, slash) where a slash is found -/
import Derived.Test.Qxb6002652aSmall
import Derived.Laws.Strings3
namespace Go.Proofs.Qxb6002652a.Wt
open Go.RowKit
set_option linter.unusedVariables false

set_option maxHeartbeats 2000000 in
set_option maxRecDepth 100000 in
theorem lite_Cut_hit (s : ByteArray) (i : Nat) (hix : Lib.indexByte s.data.toList 47 = (i : Int)) (hroom : i + 1 ≤ s.size) (hs : s.size ≤ 9223372036854775807) (w : World) :
    Calls Try.prog 20 #[.string s, .string ⟨#[47]⟩] w fun e w' => e = .returned (.tuple #[.string (s.extract 0 i), .string (s.extract (i + 1) s.size), .bool true]) ∧ ∃ n, w' = w.drewN n := by
  have c1 : (0 : Int) ≤ ↑i := by omega
  have c2 : (↑i : Int) ≤ ↑s.size := by omega
  have c3 : (0 : Int) ≤ ↑i + 1 := by omega
  have c4 : (↑i + 1 : Int) ≤ ↑s.size := by omega
  have HX : Hid (Lib.indexByte s.data.toList 47 = (i : Int)) := hix
  clear hix
  go_enter Try.func20, Try.ntmps20
  go_wp2_with (go_at_call 21; refine (lite_Index _ _).mono ?_; rintro e w' ⟨rfl, rfl⟩; rw [HX.out])
  go_region
  go_wp2
  go_ret3
  exact ⟨rfl, 1, rfl⟩

set_option maxHeartbeats 2000000 in
theorem Cut_hit (s : ByteArray) (i : Nat) (hix : Lib.indexByte s.data.toList 47 = (i : Int)) (hroom : i + 1 ≤ s.size) (hs : s.size ≤ 9223372036854775807) (w : World) :
    Calls Try.prog 19 #[.string s, .string ⟨#[47]⟩] w fun e w' => e = .returned (.tuple #[.string (s.extract 0 i), .string (s.extract (i + 1) s.size), .bool true]) ∧ ∃ n, w' = w.drewN n := by
  have HX : Hid (Lib.indexByte s.data.toList 47 = (i : Int)) := hix
  clear hix
  go_enter Try.func19, Try.ntmps19
  go_wp2_with (go_at_call 20; refine (lite_Cut_hit s i HX.out hroom hs _).mono ?_; rintro e w' ⟨rfl, n, rfl⟩)
  go_ret3
  exact ⟨rfl, _, rfl⟩

end Go.Proofs.Qxb6002652a.Wt
