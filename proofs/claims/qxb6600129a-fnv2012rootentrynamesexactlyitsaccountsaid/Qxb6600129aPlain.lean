/- the plain mathematics: Parse against a count of colons -/
import Derived.Test.Qxb6600129aParse
namespace Go.Proofs.Qxb6600129a.Arn
set_option linter.unusedVariables false

theorem idx_app (c : UInt8) : ∀ (l r : List UInt8), c ∉ l → Lib.indexByte (l ++ c :: r) c = (l.length : Int)
  | [], r, _ => by simp [Lib.indexByte]
  | b :: l, r, h => by
    have hb : (b == c) = false := by
      rw [beq_eq_false_iff_ne]; intro e; exact h (by simp [e])
    have ih := idx_app c l r (fun hm => h (by simp [hm]))
    show Lib.indexByte (b :: (l ++ c :: r)) c = _
    unfold Lib.indexByte
    rw [hb, ih]
    have : ((l.length : Int) == -1) = false := by rw [beq_eq_false_iff_ne]; omega
    rw [this]
    simp

theorem idx_none (c : UInt8) : ∀ (l : List UInt8), c ∉ l → Lib.indexByte l c = -1
  | [], _ => rfl
  | b :: l, h => by
    have hb : (b == c) = false := by
      rw [beq_eq_false_iff_ne]; intro e; exact h (by simp [e])
    have ih := idx_none c l (fun hm => h (by simp [hm]))
    unfold Lib.indexByte
    rw [hb, ih]
    simp

theorem ext_list (s : ByteArray) (a b : Nat) : (s.extract a b).data.toList = (s.data.toList.take b).drop a := by
  simp [ByteArray.data_extract, List.drop_take]

theorem ba_ext {a b : ByteArray} (h : a.data.toList = b.data.toList) : a = b := by
  cases a; cases b; simp at h; congr

/-- the colons of s -/
def cnt (s : ByteArray) : Nat := s.data.toList.count 58

theorem ix_of_pos {s : ByteArray} (h : 0 < cnt s) : ∃ i : Nat, ix 58 s = (i : Int) ∧ i < s.size ∧ 58 ∉ s.data.toList.take i ∧ s.data.toList = s.data.toList.take i ++ 58 :: s.data.toList.drop (i + 1) := by
  rcases ix_cases 58 s with hix | ⟨i, hix, hlt⟩
  · exfalso
    have := Lib.indexByte_none hix
    have hm : 58 ∈ s.data.toList := List.count_pos_iff.1 h
    obtain ⟨k, hk⟩ := List.getElem?_of_mem hm
    exact this k hk
  · refine ⟨i, hix, hlt, ?_, ?_⟩
    · intro hm
      obtain ⟨k, hk⟩ := List.getElem?_of_mem hm
      have hk' : k < i := by
        have := (List.getElem?_eq_some_iff.1 hk).1
        simp at this
        omega
      rw [List.getElem?_take, if_pos hk'] at hk
      exact (Lib.indexByte_some hix).2 k hk' hk
    · have h1 := (Lib.indexByte_some hix).1
      have hlt' : i < s.data.toList.length := by simpa using hlt
      have h2 : s.data.toList[i] = 58 := by rw [List.getElem?_eq_getElem hlt'] at h1; simpa using h1
      have := List.take_append_drop i s.data.toList
      rw [List.drop_eq_getElem_cons hlt', h2] at this
      exact this.symm

theorem ix_of_zero {s : ByteArray} (h : cnt s = 0) : ix 58 s = -1 := by
  unfold ix
  exact idx_none 58 _ (List.count_eq_zero.1 h)

theorem cutF_cnt (s : ByteArray) : cutF 58 s = decide (0 < cnt s) := by
  unfold cutF
  by_cases h : 0 < cnt s
  · obtain ⟨i, hi, _⟩ := ix_of_pos h
    rw [hi, decide_eq_true h]; exact decide_eq_true (by omega)
  · rw [ix_of_zero (by omega), decide_eq_false h]; rfl

theorem cutB_cnt (s : ByteArray) : cnt (cutB 58 s) = cnt s - 1 := by
  by_cases h : 0 < cnt s
  · obtain ⟨i, hi, hlt, hno, he⟩ := ix_of_pos h
    unfold cutB
    rw [hi, if_neg (by omega)]
    have e1 : cnt s = 1 + (s.data.toList.drop (i + 1)).count 58 := by
      show s.data.toList.count 58 = _
      conv => lhs; rw [he]
      rw [List.count_append, List.count_eq_zero.2 hno, List.count_cons_self]
      omega
    have e2 : cnt (s.extract ((i : Int).toNat + 1) s.size) = (s.data.toList.drop (i + 1)).count 58 := by
      unfold cnt
      rw [ext_list, List.take_of_length_le (by simp)]
      simp
    rw [e2, e1]
    omega
  · unfold cutB
    rw [ix_of_zero (by omega)]
    have : cnt s = 0 := by omega
    rw [this]
    rfl

theorem okP_cnt {s : ByteArray} (h : hp s ⟨#[97, 114, 110, 58]⟩ = true) : okP s = decide (4 ≤ cnt (R s 0)) := by
  have c1 : cnt (R s 1) = cnt (R s 0) - 1 := cutB_cnt _
  have c2 : cnt (R s 2) = cnt (R s 1) - 1 := cutB_cnt _
  have c3 : cnt (R s 3) = cnt (R s 2) - 1 := cutB_cnt _
  unfold okP
  rw [h, cutF_cnt, cutF_cnt, cutF_cnt, cutF_cnt, Bool.eq_iff_iff]
  simp only [Bool.true_and, Bool.and_eq_true, decide_eq_true_eq]
  omega

end Go.Proofs.Qxb6600129a.Arn
