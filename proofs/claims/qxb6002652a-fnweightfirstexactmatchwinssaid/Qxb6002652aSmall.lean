/- The small callees of this seat: strings.Cut at one byte, hasSlash, sameWeight, matches, ZZRange. -/
import Derived.Test.Qxb6002652aBase
import Derived.Lib.Strings
import Derived.Lib.Slices
import Derived.Lib.Walk
import Derived.Lib.Bytealg
import Derived.Lib.IndexLaws
import Derived.Deep.QuietTactic
import Derived.BigQuiet
import Derived.Deep.Draws
namespace Go.Proofs.Qxb6002652a.Wt
open Go.RowKit
set_option linter.unusedVariables false

set_option maxHeartbeats 1000000 in
set_option maxRecDepth 100000 in
theorem lite_IndexByte (s : ByteArray) (c : Int) (w : World) :
    Calls Try.prog 22 #[.string s, .int .u8 c] w fun e w' => e = .returned (.int .i64 (Lib.indexByte s.data.toList c.toNat.toUInt8)) ∧ w' = w := by
  go_enter Try.func22, Try.ntmps22
  go_wp2
  rw [run_callFunc_extern Try.func26 (by kernel_rfl) (by kernel_rfl) (by kernel_rfl) (e := Extern.BytealgIndexByte.indexByte) (by kernel_rfl), Lib.run_indexByteString]
  simp only [Result.andThen]
  rw [Oper.upon_value]
  go_wp2
  go_ret
  exact ⟨rfl, rfl⟩

theorem ret_int {k : IntKind} {a b : Int} (h : a = b) : Ending.returned (.int k a) = .returned (.int k b) := by rw [h]

set_option maxHeartbeats 1000000 in
theorem lite_Index (s : ByteArray) (w : World) :
    Calls Try.prog 21 #[.string s, .string ⟨#[47]⟩] w fun e w' => e = .returned (.int .i64 (Lib.indexByte s.data.toList 47)) ∧ w' = w := by
  go_enter Try.func21, Try.ntmps21
  go_wp2_with (go_at_call 22; refine (lite_IndexByte _ _ _).mono ?_; rintro e w' ⟨rfl, rfl⟩)
  · have h : ([47] == s.toList) = true := by assumption
    go_ret
    refine ⟨?_, rfl⟩
    have e : s.data.toList = [47] := by rw [← Lib.toList_data]; exact (beq_iff_eq.1 h).symm
    rw [e]
    rfl
  · go_ret
    exact ⟨rfl, rfl⟩

/-- a slash among the bytes -/
def hasB (s : ByteArray) : Bool := s.data.toList.contains 47
theorem hasB_hit {s : ByteArray} {k : Nat} (h : k < s.size) (e : ((s[k].toNat : Int) == 47) = true) : hasB s = true := by
  unfold hasB
  rw [List.contains_iff_mem]
  have e1 : s[k] = 47 := by
    have : (s[k].toNat : Int) = 47 := by simpa using e
    apply UInt8.toNat_inj.1
    simp; omega
  rw [← e1]
  exact List.getElem_mem (l := s.data.toList) (n := k) (by simpa using h)
theorem hasB_miss {s : ByteArray} (h : ∀ j (hj : j < s.size), ¬ ((s[j].toNat : Int) == 47) = true) : hasB s = false := by
  unfold hasB
  rw [← Bool.not_eq_true, List.contains_iff_mem]
  intro hm
  obtain ⟨j, hj, e⟩ := List.getElem_of_mem hm
  have hj' : j < s.size := by simpa using hj
  apply h j hj'
  have e2 : s[j] = 47 := e
  rw [e2]
  rfl

set_option maxHeartbeats 1000000 in
theorem hasSlash_any (s : ByteArray) (w : World) (hs : s.size ≤ 9223372036854775807) :
    Calls Try.prog 8 #[.string s] w fun e w' => e = .returned (.bool (hasB s)) ∧ w' = w := by
  go_enter Try.func8, Try.ntmps8
  go_wp2
  go_loop [3] (fun i => ∃ k : Nat, k ≤ s.size ∧ i = .int .i64 k ∧ ∀ j (hj : j < s.size), j < k → ¬ ((s[j].toNat : Int) == 47) = true) (fun i => s.size - (intOf i).toNat)
  case atStart => exact ⟨0, by omega, rfl, fun j _ h => by omega⟩
  case round =>
    obtain ⟨k, hk, rfl, hr⟩ := hrel
    have HR : Hid (∀ j (hj : j < s.size), j < k → ¬ ((s[j].toNat : Int) == 47) = true) := hr
    clear hr
    by_cases hlt : k < s.size
    · go_wp2
      · have h1 : ((s[k].toNat : Int) == 47) = true := by assumption
        go_ret
        exact ⟨ret_bool (hasB_hit hlt h1).symm, rfl⟩
      · have h1 : ((s[k].toNat : Int) == 47) = false := by assumption
        go_round
        case rel =>
          refine ⟨k + 1, by omega, by go_num, fun j hj hjk => ?_⟩
          by_cases hjk' : j < k
          · exact HR.out j hj hjk'
          · have : j = k := by omega
            subst this
            rw [h1]; simp
        case measure => simp [intOf]; omega
    · go_wp2
      go_ret
      exact ⟨ret_bool (hasB_miss fun j hj => HR.out j hj (by omega)).symm, rfl⟩

/-- sameWeight's answer -/
def same (a b : Nat) : Bool := (FloatKind.f64.format.order a b == some .eq) || ((FloatKind.f64.format.order a a != some .eq) && (FloatKind.f64.format.order b b != some .eq))
theorem same_self (a : Nat) : same a a = true := by
  by_cases h : FloatKind.f64.format.order a a = some .eq <;> simp [same, h]

set_option maxHeartbeats 1000000 in
theorem sameWeight_any (a b : Nat) (w : World) :
    Calls Try.prog 13 #[.float .f64 a, .float .f64 b] w fun e w' => e = .returned (.bool (same a b)) ∧ w' = w := by
  go_enter Try.func13, Try.ntmps13
  go_wp2
  all_goals (go_ret; refine ⟨ret_bool ?_, rfl⟩; go_light; simp [same, *])

/-- matches' answer -/
def mt (rt rs typ sub : ByteArray) : Bool := (rt.toList == [42]) || ((rt.toList == typ.toList) && ((rs.toList == sub.toList) || (rs.toList == [42])))

set_option maxHeartbeats 1000000 in
theorem matches_any (rt rs typ sub : ByteArray) (w : World) :
    Calls Try.prog 17 #[.string rt, .string rs, .string typ, .string sub] w fun e w' => e = .returned (.bool (mt rt rs typ sub)) ∧ w' = w := by
  go_enter Try.func17, Try.ntmps17
  go_wp2
  all_goals (go_ret; refine ⟨ret_bool ?_, rfl⟩; go_light; simp [mt, *])

attribute [local go_sem] run_store_float

set_option maxHeartbeats 1000000 in
theorem ZZRange_any (a b : ByteArray) (q : Nat) (w : World) :
    Calls Try.prog 11 #[.string a, .string b, .float .f64 q] w fun e w' => e = .returned (.agg #[.string a, .string b, .float .f64 q]) ∧ w' = w.alloc (.cells #[.string a, .string b, .float .f64 q] 32) := by
  go_enter Try.func11, Try.ntmps11
  go_wp2


  exact bodyPost_ret (v := .agg #[.string a, .string b, .float .f64 q]) (by simp [results, Try.results11, go_sem]) rfl ⟨rfl, rfl⟩

end Go.Proofs.Qxb6002652a.Wt
