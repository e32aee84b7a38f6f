/- FnV2012ShapeOfEveryAnswer: the plain law and the law's walk -/
import Derived.Test.Qxb6600129aNames
import Derived.Test.Qxb6600129aPart
namespace Go.Proofs.Qxb6600129a.Arn
open Go.RowKit
set_option linter.unusedVariables false

theorem hp_emp : hp emp ⟨#[114, 111, 108, 101, 47]⟩ = false := by decide +kernel
theorem root_emp (s r : ByteArray) : isRoot s r emp = false := by
  unfold isRoot
  have : (emp.toList == [114, 111, 111, 116]) = false := by decide +kernel
  rw [this]; rfl

theorem mism_no {i p : ByteArray} (h : ef i p 4 ≠ emp) : mism i p = false ∧ okP i = true := by
  unfold ef at h
  cases hm : mism i p with
  | true => rw [hm] at h; exact absurd rfl h
  | false =>
    rw [hm] at h
    refine ⟨rfl, ?_⟩
    cases ho : okP i with
    | true => rfl
    | false =>
      unfold fld at h
      rw [ho] at h
      exact absurd rfl h

theorem mism_pe {i p : ByteArray} (h : mism i p = false) : okP p = false ∨ (okP p = true ∧ ((fld p 0).toList == (fld i 0).toList) = true) := by
  unfold mism at h
  cases ho : okP p with
  | false => exact .inl rfl
  | true =>
    rw [ho] at h
    refine .inr ⟨rfl, ?_⟩
    have : (fld i 0).toList = (fld p 0).toList := by simpa using h
    rw [this]; simp

/-- an ARN is no account -/
theorem td_arn {i : ByteArray} (h : okP i = true) : td i = false := by
  have hh : hp i ⟨#[97, 114, 110, 58]⟩ = true := by
    cases h' : hp i ⟨#[97, 114, 110, 58]⟩ with
    | true => rfl
    | false => unfold okP at h; rw [h'] at h; cases h
  have h4 : 4 ≤ i.size := by
    by_cases h : i.size < 4
    · rw [hp_short h] at hh; cases hh
    · omega
  rw [hp_arn h4] at hh
  simp only [Bool.and_eq_true, beq_iff_eq] at hh
  apply td_bad (k := 0) (by omega)
  rw [hh.1.1.1]
  exact .inr (by decide)

theorem td_eq {i a : ByteArray} (h : (i.toList == a.toList) = true) : td i = td a := by
  have e : i = a := by
    apply ba_ext
    rw [← Lib.toList_data, ← Lib.toList_data]
    simpa using h
  rw [e]

theorem td_empty {a : ByteArray} (h : a.toList.isEmpty = true) : td a = false := by
  apply td_len
  have h1 : a.toList = [] := by simpa using h
  rw [Lib.toList_data] at h1
  have : a.data.toList.length = 0 := by rw [h1]; rfl
  have : a.size = 0 := by simpa using this
  omega

/-- THE PLAIN LAW -/
def Shape (n : Int) (ok : Bool) (m i p a : ByteArray) : Prop :=
  (n = 2 ∧ ok = true ∧ (m.toList == [65, 87, 83]) = true ∧ (i.toList == [42]) = true) ∨
  (((m.toList == [65, 87, 83]) = false ∨ ((m.toList == [65, 87, 83]) = true ∧ (i.toList == [42]) = false)) ∧
    ((n = 1 ∧ ok = true ∧ okP i = true ∧ (okP p = false ∨ (okP p = true ∧ ((fld p 0).toList == (fld i 0).toList) = true))) ∨
     (n = 0 ∧ ok = true ∧ a.toList.isEmpty = false ∧ okP i = true ∧ (okP p = false ∨ (okP p = true ∧ ((fld p 0).toList == (fld i 0).toList) = true))) ∨
     (n = 0 ∧ ok = true ∧ a.toList.isEmpty = false ∧ okP i = false ∧ td i = true ∧ (i.toList == a.toList) = true) ∨
     (n = 0 ∧ ok = false ∧ okP i = false ∧ td i = false) ∨
     (n = 0 ∧ ok = false ∧ okP i = false ∧ td i = true ∧ (i.toList == a.toList) = false) ∨
     (n = 0 ∧ ok = false ∧ okP i = true)))

theorem shape_law {rb : Bool} {m i p a : ByteArray} (hr : rb = true → hp (ef i p 4) ⟨#[114, 111, 108, 101, 47]⟩ = true) : Shape (nv rb m i p a).1 (nv rb m i p a).2 m i p a := by
  unfold nv
  cases haws : aws m i with
  | true =>
    rw [if_pos rfl]
    unfold aws at haws
    rw [Bool.and_eq_true] at haws
    exact .inl ⟨rfl, rfl, haws.1, haws.2⟩
  | false =>
    rw [if_neg (by simp)]
    refine .inr ⟨?_, ?_⟩
    · unfold aws at haws
      cases h1 : (m.toList == [65, 87, 83]) with
      | false => exact .inl rfl
      | true => rw [h1] at haws; exact .inr ⟨rfl, by simpa using haws⟩
    · cases rb with
      | true =>
        rw [if_pos rfl]
        have h1 := hr rfl
        have h2 : ef i p 4 ≠ emp := by intro e; rw [e, hp_emp] at h1; cases h1
        obtain ⟨a1, a2⟩ := mism_no h2
        exact .inl ⟨rfl, rfl, a2, mism_pe a1⟩
      | false =>
        rw [if_neg (by simp)]
        have noans : (0 : Int) = 0 → ((i.toList == a.toList) && td a) = false → (okP i = false ∧ td i = false) ∨ (okP i = false ∧ td i = true ∧ (i.toList == a.toList) = false) ∨ okP i = true := by
          intro _ hx
          cases ho : okP i with
          | true => exact .inr (.inr rfl)
          | false =>
            cases ht : td i with
            | false => exact .inl ⟨rfl, rfl⟩
            | true =>
              refine .inr (.inl ⟨rfl, rfl, ?_⟩)
              cases he : (i.toList == a.toList) with
              | false => rfl
              | true => rw [he, ← td_eq he, ht] at hx; cases hx
        have pack : ((okP i = false ∧ td i = false) ∨ (okP i = false ∧ td i = true ∧ (i.toList == a.toList) = false) ∨ okP i = true) → (((0 : Int) = 1 ∧ false = true ∧ okP i = true ∧ (okP p = false ∨ (okP p = true ∧ ((fld p 0).toList == (fld i 0).toList) = true))) ∨ ((0 : Int) = 0 ∧ false = true ∧ a.toList.isEmpty = false ∧ okP i = true ∧ (okP p = false ∨ (okP p = true ∧ ((fld p 0).toList == (fld i 0).toList) = true))) ∨ ((0 : Int) = 0 ∧ false = true ∧ a.toList.isEmpty = false ∧ okP i = false ∧ td i = true ∧ (i.toList == a.toList) = true) ∨ ((0 : Int) = 0 ∧ false = false ∧ okP i = false ∧ td i = false) ∨ ((0 : Int) = 0 ∧ false = false ∧ okP i = false ∧ td i = true ∧ (i.toList == a.toList) = false) ∨ ((0 : Int) = 0 ∧ false = false ∧ okP i = true)) := by
          rintro (⟨x, y⟩ | ⟨x, y, z⟩ | x)
          · exact .inr (.inr (.inr (.inl ⟨rfl, rfl, x, y⟩)))
          · exact .inr (.inr (.inr (.inr (.inl ⟨rfl, rfl, x, y, z⟩))))
          · exact .inr (.inr (.inr (.inr (.inr ⟨rfl, rfl, x⟩))))
        cases hae : a.toList.isEmpty with
        | true =>
          rw [if_pos rfl]
          rw [hae] at pack
          refine pack (noans rfl ?_)
          rw [td_empty hae]; simp
        | false =>
          rw [if_neg (by simp)]
          cases hrt : (isRoot (ef i p 1) (ef i p 2) (ef i p 4) && ((ef i p 3).toList == a.toList)) with
          | true =>
            rw [if_pos rfl]
            rw [Bool.and_eq_true] at hrt
            have h2 : ef i p 4 ≠ emp := by
              intro e
              have := hrt.1
              rw [e, root_emp] at this
              cases this
            obtain ⟨a1, a2⟩ := mism_no h2
            exact .inr (.inl ⟨rfl, rfl, rfl, a2, mism_pe a1⟩)
          | false =>
            rw [if_neg (by simp)]
            cases hia : ((i.toList == a.toList) && td a) with
            | true =>
              rw [if_pos rfl]
              rw [Bool.and_eq_true] at hia
              have ht : td i = true := by rw [td_eq hia.1]; exact hia.2
              refine .inr (.inr (.inl ⟨rfl, rfl, rfl, ?_, ht, hia.1⟩))
              cases ho : okP i with
              | false => rfl
              | true => rw [td_arn ho] at ht; cases ht
            | false =>
              rw [if_neg (by simp)]
              rw [hae] at pack
              exact pack (noans rfl hia)

/-! ### the walk -/
def RB (e : Ending) : Prop := ∃ b, e = .returned (.bool b)

set_option maxHeartbeats 2000000 in
theorem zz9_any (m i p a : ByteArray) (w : World) (h1 : m.size ≤ 9223372036854775807) (h2 : i.size ≤ 9223372036854775807) (h3 : p.size ≤ 9223372036854775807) (h4 : a.size ≤ 9223372036854775807) :
    Calls Try.prog 9 #[.string m, .string i, .string p, .string a] w fun e w' => RB e ∧ w' = w := by
  go_enter Try.func9, Try.ntmps9
  go_wp2
  all_goals (go_ret; exact ⟨⟨_, rfl⟩, rfl⟩)

set_option maxHeartbeats 4000000 in
theorem law3_big (m i p a : ByteArray) (w : World) (h1 : m.size ≤ 9223372036854775807) (h2 : i.size ≤ 9223372036854775807) (h3 : p.size ≤ 9223372036854775807) (h4 : a.size ≤ 9223372036854775807)
    (hbig : 65536 < m.size ∨ 65536 < i.size ∨ 65536 < p.size ∨ 65536 < a.size) :
    Calls Try.prog 3 #[.string m, .string i, .string p, .string a] w fun e w' => e = .returned (.bool true) ∧ Below w.heap.size w w' := by
  have hcases : 65536 < m.size ∨ (m.size ≤ 65536 ∧ 65536 < i.size) ∨ (m.size ≤ 65536 ∧ i.size ≤ 65536 ∧ 65536 < p.size) ∨ (m.size ≤ 65536 ∧ i.size ≤ 65536 ∧ p.size ≤ 65536 ∧ 65536 < a.size) := by omega
  clear hbig
  rcases hcases with c1 | ⟨c1, c2⟩ | ⟨c1, c2, c3⟩ | ⟨c1, c2, c3, c4⟩
  all_goals
    go_enter Try.func3, Try.ntmps3
    go_wp2_with fail
    refine (zz9_any _ _ _ _ _ h1 h2 h3 h4).mono ?_
    rintro e w' ⟨⟨b, rfl⟩, rfl⟩
    cases b
    · go_wp2
      go_ret
      exact ⟨rfl, Below.refl _ _⟩
    · go_wp2_with fail
      go_ret
      exact ⟨rfl, Below.refl _ _⟩

set_option maxHeartbeats 8000000 in
theorem law3_small (m i p a : ByteArray) (w : World) (c1 : m.size ≤ 65536) (c2 : i.size ≤ 65536) (c3 : p.size ≤ 65536) (c4 : a.size ≤ 65536) :
    Calls Try.prog 3 #[.string m, .string i, .string p, .string a] w fun e w' => e = .returned (.bool true) ∧ Below w.heap.size w w' := by
  go_enter Try.func3, Try.ntmps3
  go_wp2_with fail
  refine (zz9_any _ _ _ _ _ (by omega) (by omega) (by omega) (by omega)).mono ?_
  rintro e w' ⟨⟨b, rfl⟩, rfl⟩
  cases b
  · go_wp2
    go_ret
    exact ⟨rfl, Below.refl _ _⟩
  go_wp2_with fail
  refine (ZZ_any m i p a _ (by omega) (by omega) (by omega)).mono ?_
  rintro e w1 ⟨⟨rb, rfl, hr⟩, hb⟩
  have hsh := shape_law (m := m) (a := a) hr
  obtain ⟨n, hn⟩ : ∃ n, (nv rb m i p a).1 = n := ⟨_, rfl⟩
  obtain ⟨ok, hok⟩ : ∃ ok, (nv rb m i p a).2 = ok := ⟨_, rfl⟩
  rw [hn, hok] at hsh ⊢
  clear hn hok hr
  have HB : Hid (Below w'.heap.size w' w1) := hb
  clear hb
  rcases hsh with ⟨rfl, rfl, q1, q2⟩ | ⟨hm, hsh⟩
  · go_wp2_with fail
    go_ret
    exact ⟨rfl, HB.out⟩
  rcases hm with hm | ⟨hm, hm2⟩
  all_goals
    rcases hsh with ⟨rfl, rfl, q1, q2 | ⟨q2, q3⟩⟩ | ⟨rfl, rfl, q0, q1, q2 | ⟨q2, q3⟩⟩ | ⟨rfl, rfl, q0, q1, q2, q3⟩ | ⟨rfl, rfl, q1, q2⟩ | ⟨rfl, rfl, q1, q2, q3⟩ | ⟨rfl, rfl, q1⟩
    all_goals
      go_wp2_with (first | (go_at_call 11; refine (Part_any _ _ (by omega)).mono ?_; rintro e w2 ⟨rfl, rfl⟩) | (go_at_call 12; refine (Twelve_any _ _ (by omega)).mono ?_; rintro e w2 ⟨rfl, rfl⟩))
      all_goals (go_ret; exact ⟨rfl, HB.out⟩)

theorem law3 (m i p a : ByteArray) (w : World) (h1 : m.size ≤ 9223372036854775807) (h2 : i.size ≤ 9223372036854775807) (h3 : p.size ≤ 9223372036854775807) (h4 : a.size ≤ 9223372036854775807) :
    Calls Try.prog 3 #[.string m, .string i, .string p, .string a] w fun e w' => e = .returned (.bool true) ∧ Below w.heap.size w w' := by
  by_cases hbig : 65536 < m.size ∨ 65536 < i.size ∨ 65536 < p.size ∨ 65536 < a.size
  · exact law3_big m i p a w h1 h2 h3 h4 hbig
  · exact law3_small m i p a w (by omega) (by omega) (by omega) (by omega)

end Go.Proofs.Qxb6600129a.Arn
