/- The library's functions on the road: strings.Cut at one byte, strings.CutPrefix, strings.LastIndexByte. -/
import Derived.Test.Qxb6600129aRows
import Derived.WalkKit
import Derived.WalkSpells
import Derived.WalkLawsBesides
import Derived.Deep.Light
import Derived.Lib.Strings
import Derived.Lib.Slices
import Derived.Lib.Walk
import Derived.Lib.Bytealg
import Derived.Lib.IndexLaws
import Derived.Deep.QuietTactic
import Derived.BigQuiet
import Derived.Deep.Draws
import Derived.Laws.Strings3
namespace Go.Proofs.Qxb6600129a.Arn
open Go.RowKit
set_option linter.unusedVariables false

theorem ret_bool {a b : Bool} (h : a = b) : Ending.returned (.bool a) = .returned (.bool b) := by rw [h]
theorem ret_int {k : IntKind} {a b : Int} (h : a = b) : Ending.returned (.int k a) = .returned (.int k b) := by rw [h]

set_option maxHeartbeats 1000000 in
set_option maxRecDepth 100000 in
theorem lite_IndexByte (s : ByteArray) (c : Int) (w : World) :
    Calls Try.prog 38 #[.string s, .int .u8 c] w fun e w' => e = .returned (.int .i64 (Lib.indexByte s.data.toList c.toNat.toUInt8)) ∧ w' = w := by
  go_enter Try.func38, Try.ntmps38
  go_wp2
  rw [run_callFunc_extern Try.func42 (by kernel_rfl) (by kernel_rfl) (by kernel_rfl) (e := Extern.BytealgIndexByte.indexByte) (by kernel_rfl), Lib.run_indexByteString]
  simp only [Result.andThen]
  rw [Oper.upon_value]
  go_wp2
  go_ret
  exact ⟨rfl, rfl⟩

/-- the place of the first c, or -1 -/
def ix (c : UInt8) (s : ByteArray) : Int := Lib.indexByte s.data.toList c

set_option maxHeartbeats 1000000 in
theorem lite_Index (s : ByteArray) (c : UInt8) (w : World) :
    Calls Try.prog 37 #[.string s, .string ⟨#[c]⟩] w fun e w' => e = .returned (.int .i64 (ix c s)) ∧ w' = w := by
  go_enter Try.func37, Try.ntmps37
  go_wp2_with (go_at_call 38; refine (lite_IndexByte _ _ _).mono ?_; rintro e w' ⟨rfl, rfl⟩)
  · have h : ([c] == s.toList) = true := by assumption
    go_ret
    refine ⟨?_, rfl⟩
    have e : s.data.toList = [c] := by rw [← Lib.toList_data]; exact (beq_iff_eq.1 h).symm
    unfold ix
    rw [e]
    simp [Lib.indexByte]
  · go_ret
    unfold ix
    exact ⟨rfl, rfl⟩

theorem ix_cases (c : UInt8) (s : ByteArray) : ix c s = -1 ∨ ∃ i : Nat, ix c s = (i : Int) ∧ i < s.size := by
  have h := Lib.indexByte_ge s.data.toList c
  by_cases hm : Lib.indexByte s.data.toList c = -1
  · exact .inl hm
  · right
    obtain ⟨i, hi⟩ : ∃ i : Nat, Lib.indexByte s.data.toList c = (i : Int) := ⟨(Lib.indexByte s.data.toList c).toNat, by omega⟩
    refine ⟨i, hi, ?_⟩
    have := (Lib.indexByte_some hi).1
    have := (List.getElem?_eq_some_iff.1 this).1
    simpa using this

/-- what strings.Cut at one byte hands back -/
def cutA (c : UInt8) (s : ByteArray) : ByteArray := if ix c s < 0 then s else s.extract 0 (ix c s).toNat
def cutB (c : UInt8) (s : ByteArray) : ByteArray := if ix c s < 0 then ⟨#[]⟩ else s.extract ((ix c s).toNat + 1) s.size
def cutF (c : UInt8) (s : ByteArray) : Bool := decide (0 ≤ ix c s)

set_option maxHeartbeats 2000000 in
set_option maxRecDepth 100000 in
theorem lite_Cut (s : ByteArray) (c : UInt8) (hs : s.size ≤ 9223372036854775807) (w : World) :
    Calls Try.prog 34 #[.string s, .string ⟨#[c]⟩] w fun e w' => e = .returned (.tuple #[.string (cutA c s), .string (cutB c s), .bool (cutF c s)]) ∧ ∃ n, w' = w.drewN n := by
  rcases ix_cases c s with hix | ⟨i, hix, hroom⟩
  · have e1 : cutA c s = s := by unfold cutA; rw [hix]; rfl
    have e2 : cutB c s = ⟨#[]⟩ := by unfold cutB; rw [hix]; rfl
    have e3 : cutF c s = false := by unfold cutF; rw [hix]; rfl
    rw [e1, e2, e3]
    clear e1 e2 e3
    have HX : Hid (ix c s = -1) := hix
    clear hix
    go_enter Try.func34, Try.ntmps34
    go_wp2_with (go_at_call 37; refine (lite_Index _ _ _).mono ?_; rintro e w' ⟨rfl, rfl⟩; rw [HX.out])
    go_ret3
    exact ⟨rfl, 0, rfl⟩
  · have e1 : cutA c s = s.extract 0 i := by unfold cutA; rw [hix, if_neg (by omega)]; rfl
    have e2 : cutB c s = s.extract (i + 1) s.size := by unfold cutB; rw [hix, if_neg (by omega)]; rfl
    have e3 : cutF c s = true := by unfold cutF; rw [hix]; exact decide_eq_true (by omega)
    rw [e1, e2, e3]
    clear e1 e2 e3
    have c1 : (0 : Int) ≤ ↑i := by omega
    have c2 : (↑i : Int) ≤ ↑s.size := by omega
    have c3 : (0 : Int) ≤ ↑i + 1 := by omega
    have c4 : (↑i + 1 : Int) ≤ ↑s.size := by omega
    have HX : Hid (ix c s = (i : Int)) := hix
    clear hix
    go_enter Try.func34, Try.ntmps34
    go_wp2_with (go_at_call 37; refine (lite_Index _ _ _).mono ?_; rintro e w' ⟨rfl, rfl⟩; rw [HX.out])
    go_region
    go_wp2
    go_ret3
    exact ⟨rfl, 1, rfl⟩

set_option maxHeartbeats 2000000 in
theorem Cut_any (s : ByteArray) (c : UInt8) (hs : s.size ≤ 9223372036854775807) (w : World) :
    Calls Try.prog 30 #[.string s, .string ⟨#[c]⟩] w fun e w' => e = .returned (.tuple #[.string (cutA c s), .string (cutB c s), .bool (cutF c s)]) ∧ ∃ n, w' = w.drewN n := by
  go_enter Try.func30, Try.ntmps30
  go_wp2_with (go_at_call 34; refine (lite_Cut _ _ hs _).mono ?_; rintro e w' ⟨rfl, n, rfl⟩)
  go_ret3
  exact ⟨rfl, _, rfl⟩

/-- does s begin with p? -/
def hp (s p : ByteArray) : Bool := decide (p.size ≤ s.size) && ((s.extract 0 p.size).toList == p.toList)
/-- what strings.CutPrefix hands back -/
def cp (s p : ByteArray) : ByteArray := if hp s p then s.extract p.size s.size else s

set_option maxHeartbeats 1000000 in
theorem CutPrefix_any (s p : ByteArray) (w : World) :
    Calls Try.prog 29 #[.string s, .string p] w fun e w' => e = .returned (.tuple #[.string (cp s p), .bool (hp s p)]) ∧ w' = w := by
  go_enter Try.func29, Try.ntmps29
  go_wp2
  · have h2 : (!((s.extract 0 p.size).toList == p.toList)) = true := by assumption
    have h3 : hp s p = false := by
      have : ((s.extract 0 p.size).toList == p.toList) = false := by simpa using h2
      unfold hp
      rw [this]
      simp
    go_ret2
    refine ⟨?_, rfl⟩
    unfold cp
    rw [h3]
    rfl
  · have h1 : p.size ≤ s.size := by assumption
    have h2 : (!((s.extract 0 p.size).toList == p.toList)) = false := by assumption
    have h3 : hp s p = true := by
      have h2' : ((s.extract 0 p.size).toList == p.toList) = true := by simpa using h2
      unfold hp
      rw [h2', decide_eq_true h1]
      rfl
    go_ret2
    refine ⟨?_, rfl⟩
    unfold cp
    rw [h3]
    rfl
  · have h1 : ¬ p.size ≤ s.size := by assumption
    have h3 : hp s p = false := by unfold hp; simp [h1]
    go_ret2
    refine ⟨?_, rfl⟩
    unfold cp
    rw [h3]
    rfl

/-- among the first k bytes: the last place of c, or -1 -/
def lx (s : ByteArray) (c : Int) : Nat → Int
  | 0 => -1
  | k + 1 => if ((s.data.toList.getD k 0).toNat : Int) = c then (k : Int) else lx s c k
def lix (s : ByteArray) (c : Int) : Int := lx s c s.size

theorem lx_bd (s : ByteArray) (c : Int) : ∀ k : Nat, -1 ≤ lx s c k ∧ lx s c k < k
  | 0 => by unfold lx; omega
  | k + 1 => by
    have := lx_bd s c k
    unfold lx
    split <;> omega

theorem getD_at (s : ByteArray) (k : Nat) (h : k < s.size) : s.data.toList.getD k 0 = s[k] := by
  have h' : k < s.data.toList.length := by simpa using h
  rw [List.getD_eq_getElem?_getD, List.getElem?_eq_getElem h']
  rfl
theorem lx_hit {s : ByteArray} {c : Int} {k : Nat} (h : k < s.size) (e : ((s[k].toNat : Int) == c) = true) : lx s c (k + 1) = (k : Int) := by
  unfold lx; rw [getD_at s k h, if_pos (by simpa using e)]
theorem lx_miss {s : ByteArray} {c : Int} {k : Nat} (h : k < s.size) (e : ((s[k].toNat : Int) == c) = false) : lx s c (k + 1) = lx s c k := by
  show (if _ then _ else _) = _
  rw [getD_at s k h, if_neg (by simpa using e)]

set_option maxHeartbeats 1000000 in
theorem lite_Last (s : ByteArray) (c : Int) (w : World) (hs : s.size ≤ 1000000000) :
    Calls Try.prog 35 #[.string s, .int .u8 c] w fun e w' => e = .returned (.int .i64 (lix s c)) ∧ w' = w := by
  go_enter Try.func35, Try.ntmps35
  go_wp2
  go_loop [5] (fun j => ∃ k : Nat, k ≤ s.size ∧ j = .int .i64 ((k : Int) - 1) ∧ lix s c = lx s c k) (fun j => (intOf j + 1).toNat)
  case atStart => exact ⟨s.size, by omega, rfl, rfl⟩
  case round =>
    obtain ⟨k, hk, rfl, hx⟩ := hrel
    have HX : Hid (lix s c = lx s c k) := hx
    clear hx
    by_cases hlt : k = 0
    · subst hlt
      go_wp2
      go_ret
      exact ⟨ret_int (by rw [HX.out]; rfl), rfl⟩
    · obtain ⟨m, rfl⟩ : ∃ m, k = m + 1 := ⟨k - 1, by omega⟩
      rw [show ((m + 1 : Nat) : Int) - 1 = (m : Int) by omega]
      go_wp2
      · have h1 : ((s[m].toNat : Int) == c) = true := by assumption
        go_ret
        exact ⟨ret_int (by rw [HX.out, lx_hit (by omega) h1]), rfl⟩
      · have h1 : ((s[m].toNat : Int) == c) = false := by assumption
        go_round
        case rel => exact ⟨m, by omega, by go_num, by rw [HX.out, lx_miss (by omega) h1]⟩
        case measure => simp [intOf]

set_option maxHeartbeats 1000000 in
theorem Last_any (s : ByteArray) (c : Int) (w : World) (hs : s.size ≤ 1000000000) :
    Calls Try.prog 32 #[.string s, .int .u8 c] w fun e w' => e = .returned (.int .i64 (lix s c)) ∧ w' = w := by
  go_enter Try.func32, Try.ntmps32
  go_wp2_with (go_at_call 35; refine (lite_Last _ _ _ hs).mono ?_; rintro e w' ⟨rfl, rfl⟩)
  go_ret
  exact ⟨rfl, rfl⟩

theorem cp_size (s p : ByteArray) : (cp s p).size ≤ s.size := by
  unfold cp
  split
  · simp
  · omega

end Go.Proofs.Qxb6600129a.Arn
