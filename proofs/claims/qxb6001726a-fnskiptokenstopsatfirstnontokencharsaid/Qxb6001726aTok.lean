/- THE CALLEES OF FnSkipTokenStopsAtFirstNonTokenChar: each by a contract. -/
import Derived.Test.Qxb6001726aRows
import Derived.WalkKit
import Derived.WalkSpells
import Derived.WalkLawsBesides
import Derived.Lib.Strings
import Derived.Lib.Slices
import Derived.Lib.Walk
import Derived.Lib.Bytealg
import Derived.Deep.Light
namespace Go.Proofs.Qxb6001726a.Tok
open Go.RowKit

/-- the bytes of a Token's tail -/
def tok (c : Int) : Bool := decide ((97 ≤ c ∧ c ≤ 122) ∨ (65 ≤ c ∧ c ≤ 90) ∨ (48 ≤ c ∧ c ≤ 57) ∨ c = 33 ∨ c = 35 ∨ c = 36 ∨ c = 37 ∨ c = 38 ∨ c = 39 ∨ c = 42 ∨ c = 43 ∨ c = 45 ∨ c = 46 ∨ c = 94 ∨ c = 95 ∨ c = 96 ∨ c = 124 ∨ c = 126 ∨ c = 58 ∨ c = 47)

theorem ret_bool {a b : Bool} (h : a = b) : Ending.returned (.bool a) = .returned (.bool b) := by rw [h]

set_option maxHeartbeats 1000000 in
set_option maxRecDepth 100000 in
theorem stringslite_IndexByte (s : ByteArray) (c : Int) (w : World) :
    Calls Try.prog 26 #[.string s, .int .u8 c] w fun e w' => e = .returned (.int .i64 (Lib.indexByte s.data.toList c.toNat.toUInt8)) ∧ w' = w := by
  go_enter Try.func26, Try.ntmps26
  go_wp2
  rw [run_callFunc_extern Try.func27 (by kernel_rfl) (by kernel_rfl) (by kernel_rfl) (e := Extern.BytealgIndexByte.indexByte) (by kernel_rfl), Lib.run_indexByteString]
  simp only [Result.andThen]
  rw [Oper.upon_value]
  go_wp2
  go_ret
  exact ⟨rfl, rfl⟩

set_option maxHeartbeats 1000000 in
theorem strings_IndexByte (s : ByteArray) (c : Int) (w : World) :
    Calls Try.prog 24 #[.string s, .int .u8 c] w fun e w' => e = .returned (.int .i64 (Lib.indexByte s.data.toList c.toNat.toUInt8)) ∧ w' = w := by
  go_enter Try.func24, Try.ntmps24
  go_wp2_with (go_at_call 26; refine (stringslite_IndexByte _ _ _).mono ?_; rintro e w' ⟨rfl, rfl⟩)
  go_ret
  exact ⟨rfl, rfl⟩

theorem t_of {c : Int} (h : (97 ≤ c ∧ c ≤ 122) ∨ (65 ≤ c ∧ c ≤ 90) ∨ (48 ≤ c ∧ c ≤ 57) ∨ c = 33 ∨ c = 35 ∨ c = 36 ∨ c = 37 ∨ c = 38 ∨ c = 39 ∨ c = 42 ∨ c = 43 ∨ c = 45 ∨ c = 46 ∨ c = 94 ∨ c = 95 ∨ c = 96 ∨ c = 124 ∨ c = 126 ∨ c = 58 ∨ c = 47) : true = tok c := (decide_eq_true h).symm
theorem f_of {c : Int} (h : ¬ ((97 ≤ c ∧ c ≤ 122) ∨ (65 ≤ c ∧ c ≤ 90) ∨ (48 ≤ c ∧ c ≤ 57) ∨ c = 33 ∨ c = 35 ∨ c = 36 ∨ c = 37 ∨ c = 38 ∨ c = 39 ∨ c = 42 ∨ c = 43 ∨ c = 45 ∨ c = 46 ∨ c = 94 ∨ c = 95 ∨ c = 96 ∨ c = 124 ∨ c = 126 ∨ c = 58 ∨ c = 47)) : false = tok c := (decide_eq_false h).symm

set_option maxHeartbeats 1000000 in
theorem tokenTail_any (c : Int) (w : World) :
    Calls Try.prog 16 #[.int .u8 c] w fun e w' => e = .returned (.bool (tok c)) ∧ w' = w := by
  go_enter Try.func16, Try.ntmps16
  go_wp2
  all_goals (go_ret; refine ⟨ret_bool ?_, rfl⟩; go_light; try simp only [beq_iff_eq, beq_eq_false_iff_ne, ne_eq] at *)
  all_goals first | exact t_of (by omega) | exact f_of (by omega)

/-- the symbols, by IndexByte over the constant -/
theorem sym_nat (n : Nat) (h : n < 256) : decide (0 ≤ Lib.indexByte [33, 35, 36, 37, 38, 39, 42, 43, 45, 46, 94, 95, 96, 124, 126, 58, 47] (UInt8.ofNat n)) = decide (n = 33 ∨ n = 35 ∨ n = 36 ∨ n = 37 ∨ n = 38 ∨ n = 39 ∨ n = 42 ∨ n = 43 ∨ n = 45 ∨ n = 46 ∨ n = 94 ∨ n = 95 ∨ n = 96 ∨ n = 124 ∨ n = 126 ∨ n = 58 ∨ n = 47) := by
  revert n
  decide +kernel

theorem sym_of {c : Int} (h0 : 0 ≤ c) (h1 : c < 256) : decide (0 ≤ Lib.indexByte [33, 35, 36, 37, 38, 39, 42, 43, 45, 46, 94, 95, 96, 124, 126, 58, 47] (UInt8.ofNat c.toNat)) = decide (c = 33 ∨ c = 35 ∨ c = 36 ∨ c = 37 ∨ c = 38 ∨ c = 39 ∨ c = 42 ∨ c = 43 ∨ c = 45 ∨ c = 46 ∨ c = 94 ∨ c = 95 ∨ c = 96 ∨ c = 124 ∨ c = 126 ∨ c = 58 ∨ c = 47) := by
  rw [sym_nat c.toNat (by omega), Bool.eq_iff_iff]
  simp only [decide_eq_true_eq]
  omega

set_option maxHeartbeats 1000000 in
theorem isTokenChar_any (c : Int) (h0 : 0 ≤ c) (h1 : c < 256) (w : World) :
    Calls Try.prog 22 #[.int .u8 c] w fun e w' => e = .returned (.bool (tok c)) ∧ w' = w := by
  go_enter Try.func22, Try.ntmps22
  go_wp2_with (first | (go_at_call 24; refine (strings_IndexByte _ _ _).mono ?_; rintro e w' ⟨rfl, rfl⟩) | go_in)
  all_goals (go_ret; refine ⟨ret_bool ?_, rfl⟩; go_light)
  all_goals first | exact t_of (by omega) | (rw [sym_of h0 h1, Bool.eq_iff_iff]; unfold tok; simp only [Bool.or_eq_true, decide_eq_true_eq]; omega)

end Go.Proofs.Qxb6001726a.Tok
