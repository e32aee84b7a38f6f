/- The project's small functions on the road. -/
import Derived.Test.Qxb6600129aLib
namespace Go.Proofs.Qxb6600129a.Arn
open Go.RowKit
set_option linter.unusedVariables false

/-- an ARN as a value: partition, service, region, account, resource -/
def arnV (p s r a x : ByteArray) : Value := .agg #[.string p, .string s, .string r, .string a, .string x]

theorem bcell {W w1 : World} (hb : Below W.heap.size W w1) : (∀ b o, b < W.heap.size → w1.cell? ⟨b, o, none⟩ = W.cell? ⟨b, o, none⟩) ∧ (∀ b o, b < W.heap.size → w1.frozen? ⟨b, o, none⟩ = W.frozen? ⟨b, o, none⟩) :=
  ⟨fun b o h => hb.cell (p := ⟨b, o, none⟩) h, fun b o h => hb.frozen (p := ⟨b, o, none⟩) h⟩

/-! ### global -/
def glob (s r c : ByteArray) : Bool := (s.toList == c.toList) && r.toList.isEmpty

set_option maxHeartbeats 1000000 in
theorem global_any (p s r a x c : ByteArray) (w : World) :
    Calls Try.prog 31 #[arnV p s r a x, .string c] w fun e w' => e = .returned (.bool (glob s r c)) ∧ Below w.heap.size w w' := by
  unfold arnV
  go_enter Try.func31, Try.ntmps31
  go_wp2
  all_goals (go_ret; refine ⟨ret_bool ?_, (Below.refl _ _).alloc (Nat.le_refl _) _⟩; go_light; simp [glob, *])

/-! ### IsRoot -/
def isRoot (s r x : ByteArray) : Bool := (x.toList == [114, 111, 111, 116]) && glob s r ⟨#[105, 97, 109]⟩

set_option maxHeartbeats 1000000 in
theorem IsRoot_any (p s r a x : ByteArray) (w : World) :
    Calls Try.prog 27 #[arnV p s r a x] w fun e w' => e = .returned (.bool (isRoot s r x)) ∧ Below w.heap.size w w' := by
  unfold arnV
  go_enter Try.func27, Try.ntmps27
  go_wp2_with (go_at_call 31; refine (global_any _ _ _ _ _ _ _).mono ?_; rintro e w1 ⟨rfl, hb⟩)
  · have h : x.toList = [114, 111, 111, 116] := by assumption
    go_ret
    refine ⟨ret_bool ?_, ((Below.refl _ _).alloc (Nat.le_refl _) _).trans (hb.mono (by simp))⟩
    go_light
    simp [isRoot, *]
  · have h : ¬ x.toList = [114, 111, 111, 116] := by assumption
    go_ret
    refine ⟨ret_bool ?_, (Below.refl _ _).alloc (Nat.le_refl _) _⟩
    go_light
    simp [isRoot, *]

/-! ### namesEveryAWSPrincipal -/
def aws (m i : ByteArray) : Bool := (m.toList == [65, 87, 83]) && (i.toList == [42])

set_option maxHeartbeats 1000000 in
theorem aws_any (m i : ByteArray) (w : World) :
    Calls Try.prog 23 #[.agg #[.string m, .string i]] w fun e w' => e = .returned (.bool (aws m i)) ∧ Below w.heap.size w w' := by
  go_enter Try.func23, Try.ntmps23
  go_wp2
  all_goals (go_ret; refine ⟨ret_bool ?_, (Below.refl _ _).alloc (Nat.le_refl _) _⟩; go_light; simp [aws, *])

/-! ### twelve digits -/
def dig (b : UInt8) : Bool := decide (48 ≤ (b.toNat : Int)) && decide ((b.toNat : Int) ≤ 57)
def td (s : ByteArray) : Bool := decide (s.size = 12) && s.data.toList.all dig
theorem td_len {s : ByteArray} (h : s.size ≠ 12) : td s = false := by unfold td; rw [decide_eq_false h]; rfl
theorem td_bad {s : ByteArray} {k : Nat} (h : k < s.size) (e : (s[k].toNat : Int) < 48 ∨ 57 < (s[k].toNat : Int)) : td s = false := by
  unfold td
  have : s.data.toList.all dig = false := by
    rw [List.all_eq_false]
    refine ⟨s[k], List.getElem_mem (l := s.data.toList) (n := k) (by simpa using h), ?_⟩
    unfold dig
    rcases e with e | e
    · rw [decide_eq_false (by omega)]; simp
    · rw [decide_eq_false (p := (s[k].toNat : Int) ≤ 57) (by omega)]; simp
  rw [this]; simp
theorem td_good {s : ByteArray} (hs : s.size = 12) (h : ∀ j (hj : j < s.size), 48 ≤ (s[j].toNat : Int) ∧ (s[j].toNat : Int) ≤ 57) : td s = true := by
  unfold td
  rw [decide_eq_true hs, List.all_eq_true.2]
  · rfl
  · intro b hb
    obtain ⟨j, hj, rfl⟩ := List.getElem_of_mem hb
    have := h j (by simpa using hj)
    unfold dig
    have e : s.data.toList[j] = s[j]'(by simpa using hj) := rfl
    rw [e, decide_eq_true this.1, decide_eq_true this.2]
    rfl

set_option maxHeartbeats 1000000 in
theorem IsAccount_any (s : ByteArray) (w : World) (hs : s.size ≤ 9223372036854775807) :
    Calls Try.prog 28 #[.string s] w fun e w' => e = .returned (.bool (td s)) ∧ w' = w := by
  by_cases h12 : s.size = 12
  · have hl : (s.size : Int) = 12 := by omega
    go_enter Try.func28, Try.ntmps28
    go_wp2
    go_loop [9] (fun i => ∃ k : Nat, k ≤ s.size ∧ i = .int .i64 k ∧ ∀ j (hj : j < s.size), j < k → 48 ≤ (s[j].toNat : Int) ∧ (s[j].toNat : Int) ≤ 57) (fun i => s.size - (intOf i).toNat)
    case atStart => exact ⟨0, by omega, rfl, fun j _ h => by omega⟩
    case round =>
      obtain ⟨k, hk, rfl, hr⟩ := hrel
      have HR : Hid (∀ j (hj : j < s.size), j < k → 48 ≤ (s[j].toNat : Int) ∧ (s[j].toNat : Int) ≤ 57) := hr
      clear hr
      by_cases hlt : k < s.size
      · by_cases hg : 48 ≤ (s[k].toNat : Int) ∧ (s[k].toNat : Int) ≤ 57
        · obtain ⟨g1, g2⟩ := hg
          go_wp2
          go_round
          case rel =>
            refine ⟨k + 1, by omega, by go_num, fun j hj hjk => ?_⟩
            by_cases hjk' : j < k
            · exact HR.out j hj hjk'
            · obtain rfl : j = k := by omega
              exact ⟨g1, g2⟩
          case measure => simp [intOf]; omega
        · have hbad : (s[k].toNat : Int) < 48 ∨ 57 < (s[k].toNat : Int) := by omega
          have HB : Hid (td s = false) := td_bad hlt hbad
          clear hg
          rcases hbad with hbad | hbad
          all_goals
            go_wp2
            go_ret
            exact ⟨ret_bool HB.out.symm, rfl⟩
      · go_wp2
        go_ret
        exact ⟨ret_bool (td_good h12 fun j hj => HR.out j hj (by omega)).symm, rfl⟩
  · go_enter Try.func28, Try.ntmps28
    go_wp2
    go_ret
    exact ⟨ret_bool (td_len h12).symm, rfl⟩

set_option maxHeartbeats 1000000 in
theorem Twelve_any (s : ByteArray) (w : World) (hs : s.size ≤ 9223372036854775807) :
    Calls Try.prog 12 #[.string s] w fun e w' => e = .returned (.bool (td s)) ∧ w' = w := by
  by_cases h12 : s.size = 12
  · have hl : (s.size : Int) = 12 := by omega
    go_enter Try.func12, Try.ntmps12
    go_wp2
    go_loop [3] (fun i => ∃ k : Nat, k ≤ s.size ∧ i = .int .i64 k ∧ ∀ j (hj : j < s.size), j < k → 48 ≤ (s[j].toNat : Int) ∧ (s[j].toNat : Int) ≤ 57) (fun i => s.size - (intOf i).toNat)
    case atStart => exact ⟨0, by omega, rfl, fun j _ h => by omega⟩
    case round =>
      obtain ⟨k, hk, rfl, hr⟩ := hrel
      have HR : Hid (∀ j (hj : j < s.size), j < k → 48 ≤ (s[j].toNat : Int) ∧ (s[j].toNat : Int) ≤ 57) := hr
      clear hr
      by_cases hlt : k < s.size
      · by_cases hg : 48 ≤ (s[k].toNat : Int) ∧ (s[k].toNat : Int) ≤ 57
        · obtain ⟨g1, g2⟩ := hg
          go_wp2
          go_round
          case rel =>
            refine ⟨k + 1, by omega, by go_num, fun j hj hjk => ?_⟩
            by_cases hjk' : j < k
            · exact HR.out j hj hjk'
            · obtain rfl : j = k := by omega
              exact ⟨g1, g2⟩
          case measure => simp [intOf]; omega
        · have hbad : (s[k].toNat : Int) < 48 ∨ 57 < (s[k].toNat : Int) := by omega
          have HB : Hid (td s = false) := td_bad hlt hbad
          clear hg
          rcases hbad with hbad | hbad
          all_goals
            go_wp2
            go_ret
            exact ⟨ret_bool HB.out.symm, rfl⟩
      · go_wp2
        go_ret
        exact ⟨ret_bool (td_good h12 fun j hj => HR.out j hj (by omega)).symm, rfl⟩
  · go_enter Try.func12, Try.ntmps12
    go_wp2
    go_ret
    exact ⟨ret_bool (td_len h12).symm, rfl⟩

/-! ### b1HasByte -/
def hasC (c : UInt8) (s : ByteArray) : Bool := s.data.toList.contains c
theorem hasC_hit {c : UInt8} {s : ByteArray} {k : Nat} (h : k < s.size) (e : ((s[k].toNat : Int) == (c.toNat : Int)) = true) : hasC c s = true := by
  unfold hasC
  rw [List.contains_iff_mem]
  have e1 : s[k] = c := by
    have : (s[k].toNat : Int) = c.toNat := by simpa using e
    apply UInt8.toNat_inj.1
    omega
  rw [← e1]
  exact List.getElem_mem (l := s.data.toList) (n := k) (by simpa using h)
theorem hasC_miss {c : UInt8} {s : ByteArray} (h : ∀ j (hj : j < s.size), ¬ ((s[j].toNat : Int) == (c.toNat : Int)) = true) : hasC c s = false := by
  unfold hasC
  rw [← Bool.not_eq_true, List.contains_iff_mem]
  intro hm
  obtain ⟨j, hj, e⟩ := List.getElem_of_mem hm
  have hj' : j < s.size := by simpa using hj
  apply h j hj'
  have e2 : s[j] = c := e
  rw [e2]
  simp

set_option maxHeartbeats 1000000 in
theorem HasByte_any (s : ByteArray) (w : World) (hs : s.size ≤ 9223372036854775807) :
    Calls Try.prog 14 #[.string s, .int .u8 58] w fun e w' => e = .returned (.bool (hasC 58 s)) ∧ w' = w := by
  go_enter Try.func14, Try.ntmps14
  go_wp2
  go_loop [5] (fun i => ∃ k : Nat, k ≤ s.size ∧ i = .int .i64 k ∧ ∀ j (hj : j < s.size), j < k → ¬ ((s[j].toNat : Int) == 58) = true) (fun i => s.size - (intOf i).toNat)
  case atStart => exact ⟨0, by omega, rfl, fun j _ h => by omega⟩
  case round =>
    obtain ⟨k, hk, rfl, hr⟩ := hrel
    have HR : Hid (∀ j (hj : j < s.size), j < k → ¬ ((s[j].toNat : Int) == 58) = true) := hr
    clear hr
    by_cases hlt : k < s.size
    · go_wp2
      · have h1 : ((s[k].toNat : Int) == 58) = true := by assumption
        go_ret
        exact ⟨ret_bool (hasC_hit (c := 58) hlt h1).symm, rfl⟩
      · have h1 : ((s[k].toNat : Int) == 58) = false := by assumption
        go_round
        case rel =>
          refine ⟨k + 1, by omega, by go_num, fun j hj hjk => ?_⟩
          by_cases hjk' : j < k
          · exact HR.out j hj hjk'
          · obtain rfl : j = k := by omega
            rw [h1]; simp
        case measure => simp [intOf]; omega
    · go_wp2
      go_ret
      exact ⟨ret_bool (hasC_miss (c := 58) fun j hj => HR.out j hj (by omega)).symm, rfl⟩

end Go.Proofs.Qxb6600129a.Arn
