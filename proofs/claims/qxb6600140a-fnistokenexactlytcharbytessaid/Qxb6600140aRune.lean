/- strings.IndexRune of a rune beyond ASCII in an ASCII text: not there -/
import Derived.Test.Qxb6600140aTok
namespace Go.Proofs.Qxb6600140a.Tok
open Go.RowKit
set_option linter.unusedVariables false

def vr (r : Int) : Bool := decide ((0 ≤ r ∧ r < 55296) ∨ (57343 < r ∧ r ≤ 1114111))

set_option maxHeartbeats 400000 in
theorem ValidRune_any (r : Int) (w : World) :
    Calls Try.prog 37 #[.int .i32 r] w fun e w' => e = .returned (.bool (vr r)) ∧ w' = w := by
  go_enter Try.func37, Try.ntmps37
  go_wp2
  all_goals (go_ret; refine ⟨ret_bool ?_, rfl⟩; go_light; unfold vr; symm; first | exact decide_eq_true (by omega) | exact decide_eq_false (by omega))

theorem idx_none (c : UInt8) : ∀ (l : List UInt8), c ∉ l → Lib.indexByte l c = -1
  | [], _ => rfl
  | b :: l, h => by
    have hb : (b == c) = false := by
      rw [beq_eq_false_iff_ne]; intro e; exact h (by simp [e])
    have ih := idx_none c l (fun hm => h (by simp [hm]))
    unfold Lib.indexByte
    rw [hb, ih]
    simp

/-- every byte is ASCII -/
def Asc (s : ByteArray) : Prop := ∀ b ∈ s.data.toList, b.toNat < 128
theorem Asc.at {s : ByteArray} (h : Asc s) {k : Nat} (hk : k < s.size) : s[k].toNat < 128 :=
  h _ (List.getElem_mem (l := s.data.toList) (n := k) (by simpa using hk))
theorem Asc.cut {s : ByteArray} (h : Asc s) (a b : Nat) : Asc (s.extract a b) := fun x hx => h x (mem_extract hx)
theorem Asc.idx {s : ByteArray} (h : Asc s) {c : UInt8} (hc : 128 ≤ c.toNat) : Lib.indexByte s.data.toList c = -1 :=
  idx_none c _ (fun hm => by have := h c hm; omega)

set_option maxHeartbeats 1000000 in
set_option maxRecDepth 100000 in
theorem IndexRune_bad (s : ByteArray) (r : Int) (w : World) (h0 : 128 ≤ r) (h1 : r ≠ 65533) (hv : vr r = false) :
    Calls Try.prog 35 #[.string s, .int .i32 r] w fun e w' => e = .returned (.int .i64 (-1)) ∧ Below w.heap.size w w' := by
  go_enter Try.func35, Try.ntmps35
  go_wp2_with (go_at_call 37; refine (ValidRune_any _ _).mono ?_; rintro e w' ⟨rfl, rfl⟩)
  go_ret
  exact ⟨rfl, Below.refl _ _⟩

set_option maxHeartbeats 1000000 in
set_option maxRecDepth 100000 in
theorem IndexRune_err (s : ByteArray) (w : World) (ha : Asc s) :
    Calls Try.prog 35 #[.string s, .int .i32 65533] w fun e w' => e = .returned (.int .i64 (-1)) ∧ Below w.heap.size w w' := by
  have HA : Hid (Asc s) := ha
  clear ha
  go_enter Try.func35, Try.ntmps35
  go_wp2_with fail
  go_loopw [] (fun wr => ∃ pos : Nat, wr = w.iter s pos) (fun wr => s.size - wr.iterPos w.heap.size)
  case atStart => exact ⟨0, rfl⟩
  case round =>
    obtain ⟨pos, rfl⟩ := hrel
    by_cases hp : pos < s.size
    · have hb := HA.out.at hp
      have hnx : ∀ ty, (Instr.next (.pointer (some ⟨w.heap.size, 0, none⟩)) true ty).run Try.prog (w.iter s pos) = _ := fun ty => run_next_ascii w s pos ty hp hb
      go_wp2
      go_roundw
      case rel => exact ⟨pos + 1, rfl⟩
      case measure => simp; omega
    · have hnx : ∀ ty, (Instr.next (.pointer (some ⟨w.heap.size, 0, none⟩)) true ty).run Try.prog (w.iter s pos) = _ := fun ty => run_next_end w s pos ty hp
      go_wp2
      go_ret
      exact ⟨rfl, (Below.refl _ _).alloc (Nat.le_refl _) _⟩

set_option maxHeartbeats 2000000 in
set_option maxRecDepth 100000 in
theorem IndexRune_high (s : ByteArray) (r : Int) (w : World) (ha : Asc s) (h4 : 4 ≤ s.size) (hm : s.size ≤ 1000) (h0 : 128 ≤ r) (h1 : r ≠ 65533) (hv : vr r = true) :
    Calls Try.prog 35 #[.string s, .int .i32 r] w fun e w' => e = .returned (.int .i64 (-1)) ∧ Below w.heap.size w w' := by
  obtain ⟨e2, e4, el⟩ := encode_facts r (by rw [validRune_eq]; exact hv) h0
  obtain ⟨rs, hrs⟩ : ∃ rs, Utf8.encode r = rs := ⟨_, rfl⟩
  rw [hrs] at e2 e4 el
  have HA : Hid (Asc s) := ha
  clear ha
  obtain ⟨n, hn⟩ : ∃ n, rs.size = n + 1 := ⟨rs.size - 1, by omega⟩
  have hn1 : 1 ≤ n := by omega
  have hn3 : n ≤ 3 := by omega
  have hnr : n < rs.size := by omega
  have hns : n < s.size := by omega
  have hlast : 128 ≤ (rs[n]'hnr).toNat := by
    have := el (by omega)
    simpa [hn] using this
  have hsn : (s[n]'hns).toNat < 128 := HA.out.at hns
  have c0 : (0 : Int) ≤ (n : Int) := by omega
  have c1 : (n : Int) < (s.size : Int) := by omega
  have c2 : (n : Int) < (n : Int) + 1 := by omega
  have c3 : (0 : Int) ≤ (n : Int) + 1 := by omega
  have c4 : (n : Int) + 1 ≤ (s.size : Int) := by omega
  have hne : (((s[n]'hns).toNat : Int) != ((rs[n]'hnr).toNat : Int)) = true := by
    rw [bne_iff_ne]
    omega
  have hidx : Lib.indexByte (List.take (s.size - (n + 1)) (List.drop (n + 1) s.data.toList)) (rs[n]'hnr) = -1 := idx_none _ _ (fun hm => by have := HA.out _ (List.mem_of_mem_drop (List.mem_of_mem_take hm)); omega)
  clear e2 e4 el
  go_enter Try.func35, Try.ntmps35
  go_wp2_with (go_at_call 37; refine (ValidRune_any _ _).mono ?_; rintro e w' ⟨rfl, rfl⟩)
  go_step3
  go_wp2_with fail
  refine wp_loop_rounds 1 ?_
  rw [rounds_succ]
  go_wp2_with fail
  go_step3
  go_wp2_with fail
  go_quiet (fail)
  have hbq : Below w'.heap.size w' (w'.drewN nq) := below_drewN (Below.refl _ _) nq
  obtain ⟨wq, hwq⟩ : ∃ wq, w'.drewN nq = wq := ⟨_, rfl⟩
  rw [hwq] at hbq ⊢
  clear hwq
  go_wp2_with fail
  go_quiet ((go_at_call 36; exact Calls.quiet_of_same (strings_IndexByte _ _ _)))
  go_wp2_with fail
  rw [Exit.noGoto_ret]
  simp only [Exit.inBlock, Exit.then]
  rw [Exit.noGoto_ret]
  go_ret
  exact ⟨rfl, below_drewN hbq _⟩

end Go.Proofs.Qxb6600140a.Tok
