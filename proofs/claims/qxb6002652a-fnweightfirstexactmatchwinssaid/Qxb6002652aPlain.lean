/- the plain mathematics: the name cut at its slash; the fold -/
import Derived.Test.Qxb6002652aWeight
namespace Go.Proofs.Qxb6002652a.Wt
set_option linter.unusedVariables false

theorem idx_app (c : UInt8) : ∀ (l r : List UInt8), c ∉ l → Lib.indexByte (l ++ c :: r) c = (l.length : Int)
  | [], r, _ => by simp [Lib.indexByte]
  | b :: l, r, h => by
    have hb : (b == c) = false := by
      rw [beq_eq_false_iff_ne]; intro e; exact h (by simp [e])
    have ih := idx_app c l r (fun hm => h (by simp [hm]))
    show Lib.indexByte (b :: (l ++ c :: r)) c = _
    unfold Lib.indexByte
    rw [hb, ih]
    have : ((l.length : Int) == -1) = false := by rw [beq_eq_false_iff_ne]; omega
    rw [this]
    simp

/-- the media type's name -/
def nm (typ sub : ByteArray) : ByteArray := typ ++ ⟨#[47]⟩ ++ sub

theorem nm_list (typ sub : ByteArray) : (nm typ sub).data.toList = typ.data.toList ++ 47 :: sub.data.toList := by
  unfold nm
  simp [ByteArray.data_append]

theorem nm_size (typ sub : ByteArray) : (nm typ sub).size = typ.size + 1 + sub.size := by
  unfold nm
  simp [ByteArray.size_append]
  rfl

theorem nm_idx (typ sub : ByteArray) (h : hasB typ = false) : Lib.indexByte (nm typ sub).data.toList 47 = (typ.size : Int) := by
  rw [nm_list, idx_app]
  · simp
  · unfold hasB at h
    intro hm
    rw [← List.contains_iff_mem, h] at hm
    cases hm

theorem ext_list (s : ByteArray) (a b : Nat) : (s.extract a b).data.toList = (s.data.toList.take b).drop a := by
  simp [ByteArray.data_extract, List.drop_take]

theorem ba_ext {a b : ByteArray} (h : a.data.toList = b.data.toList) : a = b := by
  cases a; cases b; simp at h; congr

theorem nm_fst (typ sub : ByteArray) : (nm typ sub).extract 0 typ.size = typ := by
  apply ba_ext
  rw [ext_list, nm_list]
  simp

theorem nm_snd (typ sub : ByteArray) : (nm typ sub).extract (typ.size + 1) (nm typ sub).size = sub := by
  apply ba_ext
  rw [ext_list, nm_list, nm_size]
  have e : typ.size = typ.data.toList.length := by simp
  rw [List.take_of_length_le (by simp; omega), e, List.drop_append]
  simp

/-! ### the fold -/
theorem spec_nonneg (rt rs typ sub : ByteArray) : 0 ≤ spec rt rs typ sub := by
  unfold spec; split <;> (try split) <;> (try split) <;> omega

theorem spec_pos (rt rs typ sub : ByteArray) : mt rt rs typ sub = decide (0 < spec rt rs typ sub) := by
  have t3 : decide ((0 : Int) < 3) = true := rfl
  have t2 : decide ((0 : Int) < 2) = true := rfl
  have t1 : decide ((0 : Int) < 1) = true := rfl
  have t0 : decide ((0 : Int) < 0) = false := rfl
  by_cases a : rt.toList = typ.toList
  · by_cases b : rs.toList = sub.toList
    · rw [sp3 a b, t3]; unfold mt; rw [beq_iff_eq.2 a, beq_iff_eq.2 b]; simp
    · by_cases c : rs.toList = [42]
      · rw [sp2 a b c, t2]; unfold mt; rw [beq_iff_eq.2 a, beq_iff_eq.2 c]; simp
      · by_cases d : typ.toList = [42]
        · rw [sp1 a b c d, t1]; unfold mt; rw [beq_iff_eq.2 (a.trans d)]; simp
        · rw [sp0 a b c d, t0]; unfold mt; rw [beq_eq_false_iff_ne.2 b, beq_eq_false_iff_ne.2 c, beq_eq_false_iff_ne.2 (fun h => d (a.symm.trans h))]; simp
  · by_cases d : rt.toList = [42]
    · rw [sp1' a d, t1]; unfold mt; rw [beq_iff_eq.2 d]; simp
    · rw [sp0' a d, t0]; unfold mt; rw [beq_eq_false_iff_ne.2 a, beq_eq_false_iff_ne.2 d]; simp

def anyM (T U : Nat → ByteArray) (typ sub : ByteArray) : Nat → Bool
  | 0 => false
  | k + 1 => anyM T U typ sub k || mt (T k) (U k) typ sub

def anyF (T U : Nat → ByteArray) (Q : Nat → Nat) (typ sub : ByteArray) (W : Nat) : Nat → Bool
  | 0 => false
  | k + 1 => anyF T U Q typ sub W k || (mt (T k) (U k) typ sub && same W (Q k))

theorem anyF_of {T U : Nat → ByteArray} {Q : Nat → Nat} {typ sub : ByteArray} {W i : Nat} : ∀ {n : Nat}, i < n → mt (T i) (U i) typ sub = true → same W (Q i) = true → anyF T U Q typ sub W n = true
  | 0, h, _, _ => by omega
  | n + 1, h, a, b => by
    unfold anyF
    by_cases e : i = n
    · subst e; rw [a, b]; simp
    · rw [anyF_of (by omega) a b]; simp

theorem wf_inv (T U : Nat → ByteArray) (Q : Nat → Nat) (typ sub : ByteArray) : ∀ k,
    ((wf T U Q typ sub k).2 = 0 ∧ (wf T U Q typ sub k).1 = 0 ∧ anyM T U typ sub k = false) ∨
    (0 < (wf T U Q typ sub k).2 ∧ anyM T U typ sub k = true ∧ ∃ i, i < k ∧ mt (T i) (U i) typ sub = true ∧ (wf T U Q typ sub k).1 = Q i)
  | 0 => .inl ⟨rfl, rfl, rfl⟩
  | k + 1 => by
    have hs := spec_nonneg (T k) (U k) typ sub
    have hp := spec_pos (T k) (U k) typ sub
    by_cases hlt : (wf T U Q typ sub k).2 < spec (T k) (U k) typ sub
    · rw [wf_up rfl hlt]
      have hps : 0 < spec (T k) (U k) typ sub := by
        rcases wf_inv T U Q typ sub k with ⟨a, _, _⟩ | ⟨a, _⟩ <;> omega
      have hm : mt (T k) (U k) typ sub = true := by rw [hp]; exact decide_eq_true hps
      refine .inr ⟨hps, by unfold anyM; rw [hm]; simp, k, by omega, hm, rfl⟩
    · rw [wf_stay rfl (by omega)]
      rcases wf_inv T U Q typ sub k with ⟨a, b, c⟩ | ⟨a, b, i, hi, hm, e⟩
      · have hz : mt (T k) (U k) typ sub = false := by rw [hp]; exact decide_eq_false (by omega)
        exact .inl ⟨a, b, by unfold anyM; rw [c, hz]; rfl⟩
      · exact .inr ⟨a, by unfold anyM; rw [b]; rfl, i, by omega, hm, e⟩

theorem law_none {T U : Nat → ByteArray} {Q : Nat → Nat} {typ sub : ByteArray} {n : Nat} (h : anyM T U typ sub n = false) : (wf T U Q typ sub n).1 = 0 := by
  rcases wf_inv T U Q typ sub n with ⟨_, b, _⟩ | ⟨_, b, _⟩
  · exact b
  · rw [h] at b; cases b

theorem law_some {T U : Nat → ByteArray} {Q : Nat → Nat} {typ sub : ByteArray} {n : Nat} (h : anyM T U typ sub n = true) : anyF T U Q typ sub (wf T U Q typ sub n).1 n = true := by
  rcases wf_inv T U Q typ sub n with ⟨_, _, b⟩ | ⟨_, _, i, hi, hm, e⟩
  · rw [h] at b; cases b
  · exact anyF_of hi hm (by rw [e]; exact same_self _)

theorem zero_eq : (FloatKind.f64.format.order 0 0 == some .eq) = true := by decide +kernel

/-- the first range names the type exactly: it decides -/
theorem law_first {T U : Nat → ByteArray} {Q : Nat → Nat} {typ sub : ByteArray} (a : (T 0).toList = typ.toList) (b : (U 0).toList = sub.toList) : ∀ n, wf T U Q typ sub (n + 1) = (Q 0, 3)
  | 0 => wf_up (sp3 a b) (by show (0 : Int) < 3; omega)
  | n + 1 => by
    have ih := law_first (Q := Q) a b n
    have hs : spec (T (n + 1)) (U (n + 1)) typ sub ≤ 3 := by unfold spec; split <;> (try split) <;> (try split) <;> omega
    rw [wf_stay rfl (by rw [ih]; exact hs), ih]

end Go.Proofs.Qxb6002652a.Wt
