/- The callees of FnIsTokenExactlyTcharBytes. -/
import Derived.Test.Qxb6600140aRows
import Derived.WalkKit
import Derived.WalkSpells
import Derived.WalkLawsBesides
import Derived.Deep.Light
import Derived.Lib.Strings
import Derived.Lib.Slices
import Derived.Lib.Walk
import Derived.Lib.Bytealg
import Derived.Deep.QuietTactic
import Derived.BigQuiet
import Derived.Laws.Runes
import Derived.Laws.RangeAny
namespace Go.Proofs.Qxb6600140a.Tok
open Go.RowKit
set_option linter.unusedVariables false

/-- the tchar bytes -/
def tch (c : Int) : Bool := decide ((97 ≤ c ∧ c ≤ 122) ∨ (65 ≤ c ∧ c ≤ 90) ∨ (48 ≤ c ∧ c ≤ 57) ∨ c = 33 ∨ c = 35 ∨ c = 36 ∨ c = 37 ∨ c = 38 ∨ c = 39 ∨ c = 42 ∨ c = 43 ∨ c = 45 ∨ c = 46 ∨ c = 94 ∨ c = 95 ∨ c = 96 ∨ c = 124 ∨ c = 126)
theorem t_of {c : Int} (h : (97 ≤ c ∧ c ≤ 122) ∨ (65 ≤ c ∧ c ≤ 90) ∨ (48 ≤ c ∧ c ≤ 57) ∨ c = 33 ∨ c = 35 ∨ c = 36 ∨ c = 37 ∨ c = 38 ∨ c = 39 ∨ c = 42 ∨ c = 43 ∨ c = 45 ∨ c = 46 ∨ c = 94 ∨ c = 95 ∨ c = 96 ∨ c = 124 ∨ c = 126) : true = tch c := (decide_eq_true h).symm
theorem f_of {c : Int} (h : ¬ ((97 ≤ c ∧ c ≤ 122) ∨ (65 ≤ c ∧ c ≤ 90) ∨ (48 ≤ c ∧ c ≤ 57) ∨ c = 33 ∨ c = 35 ∨ c = 36 ∨ c = 37 ∨ c = 38 ∨ c = 39 ∨ c = 42 ∨ c = 43 ∨ c = 45 ∨ c = 46 ∨ c = 94 ∨ c = 95 ∨ c = 96 ∨ c = 124 ∨ c = 126)) : false = tch c := (decide_eq_false h).symm

theorem ret_bool {a b : Bool} (h : a = b) : Ending.returned (.bool a) = .returned (.bool b) := by rw [h]
theorem ret_int {k : IntKind} {a b : Int} (h : a = b) : Ending.returned (.int k a) = .returned (.int k b) := by rw [h]

set_option maxHeartbeats 1000000 in
theorem isTchar_any (c : Int) (w : World) :
    Calls Try.prog 10 #[.int .u8 c] w fun e w' => e = .returned (.bool (tch c)) ∧ w' = w := by
  go_enter Try.func10, Try.ntmps10
  go_wp2
  all_goals (go_ret; refine ⟨ret_bool ?_, rfl⟩; go_light; try simp only [beq_iff_eq, beq_eq_false_iff_ne, ne_eq] at *)
  all_goals first | exact t_of (by omega) | exact f_of (by omega)

set_option maxHeartbeats 400000 in
theorem zzBytes_ok (s : ByteArray) (w : World) (hs : s.size ≤ 1048576) :
    Calls Try.prog 9 #[.string s] w fun e w' => e = .returned (.bool true) ∧ w' = w := by
  go_enter Try.func9, Try.ntmps9
  go_wp2
  go_ret
  exact ⟨rfl, rfl⟩

set_option maxHeartbeats 1000000 in
set_option maxRecDepth 100000 in
theorem lite_IndexByte (s : ByteArray) (c : Int) (w : World) :
    Calls Try.prog 40 #[.string s, .int .u8 c] w fun e w' => e = .returned (.int .i64 (Lib.indexByte s.data.toList c.toNat.toUInt8)) ∧ w' = w := by
  go_enter Try.func40, Try.ntmps40
  go_wp2
  rw [run_callFunc_extern Try.func41 (by kernel_rfl) (by kernel_rfl) (by kernel_rfl) (e := Extern.BytealgIndexByte.indexByte) (by kernel_rfl), Lib.run_indexByteString]
  simp only [Result.andThen]
  rw [Oper.upon_value]
  go_wp2
  go_ret
  exact ⟨rfl, rfl⟩

set_option maxHeartbeats 1000000 in
theorem strings_IndexByte (s : ByteArray) (c : Int) (w : World) :
    Calls Try.prog 36 #[.string s, .int .u8 c] w fun e w' => e = .returned (.int .i64 (Lib.indexByte s.data.toList c.toNat.toUInt8)) ∧ w' = w := by
  go_enter Try.func36, Try.ntmps36
  go_wp2_with (go_at_call 40; refine (lite_IndexByte _ _ _).mono ?_; rintro e w' ⟨rfl, rfl⟩)
  go_ret
  exact ⟨rfl, rfl⟩

/-- the symbols -/
def SY : ByteArray := ⟨#[33, 35, 36, 37, 38, 39, 42, 43, 45, 46, 94, 95, 96, 124, 126]⟩

theorem sym_nat (n : Nat) (h : n < 256) : decide (0 ≤ Lib.indexByte [33, 35, 36, 37, 38, 39, 42, 43, 45, 46, 94, 95, 96, 124, 126] (UInt8.ofNat n)) = decide (n = 33 ∨ n = 35 ∨ n = 36 ∨ n = 37 ∨ n = 38 ∨ n = 39 ∨ n = 42 ∨ n = 43 ∨ n = 45 ∨ n = 46 ∨ n = 94 ∨ n = 95 ∨ n = 96 ∨ n = 124 ∨ n = 126) := by
  revert n
  decide +kernel

/-- is it a symbol? -/
def sym (c : Int) : Bool := decide (c = 33 ∨ c = 35 ∨ c = 36 ∨ c = 37 ∨ c = 38 ∨ c = 39 ∨ c = 42 ∨ c = 43 ∨ c = 45 ∨ c = 46 ∨ c = 94 ∨ c = 95 ∨ c = 96 ∨ c = 124 ∨ c = 126)

theorem sym_of {c : Int} (h0 : 0 ≤ c) (h1 : c < 256) : decide (0 ≤ Lib.indexByte [33, 35, 36, 37, 38, 39, 42, 43, 45, 46, 94, 95, 96, 124, 126] (UInt8.ofNat c.toNat)) = sym c := by
  rw [sym_nat c.toNat (by omega), Bool.eq_iff_iff]
  unfold sym
  simp only [decide_eq_true_eq]
  omega

/-! ### strings.IndexRune, strings.ContainsRune over the symbols, at an ASCII rune -/
set_option maxHeartbeats 1000000 in
set_option maxRecDepth 100000 in
theorem IndexRune_low (s : ByteArray) (r : Int) (w : World) (h0 : 0 ≤ r) (h1 : r < 128) :
    Calls Try.prog 35 #[.string s, .int .i32 r] w fun e w' => e = .returned (.int .i64 (Lib.indexByte s.data.toList (UInt8.ofNat r.toNat))) ∧ w' = w := by
  go_enter Try.func35, Try.ntmps35
  go_wp2_with (go_at_call 36; refine (strings_IndexByte _ _ _).mono ?_; rintro e w' ⟨rfl, rfl⟩)
  go_ret
  exact ⟨rfl, rfl⟩

end Go.Proofs.Qxb6600140a.Tok
