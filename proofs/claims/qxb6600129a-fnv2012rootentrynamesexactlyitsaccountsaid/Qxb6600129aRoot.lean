/- FnV2012RootEntryNamesExactlyItsAccount: the plain law and the law's walk -/
import Derived.Test.Qxb6600129aShape
namespace Go.Proofs.Qxb6600129a.Arn
open Go.RowKit
set_option linter.unusedVariables false

/-- the entry -/
def rid (pt ac : ByteArray) : ByteArray := ⟨#[97, 114, 110, 58]⟩ ++ pt ++ ⟨#[58, 105, 97, 109, 58, 58]⟩ ++ ac ++ ⟨#[58, 114, 111, 111, 116]⟩

theorem rid_list (pt ac : ByteArray) : (rid pt ac).data.toList = [97, 114, 110, 58] ++ (pt.data.toList ++ 58 :: ([105, 97, 109] ++ 58 :: ([] ++ 58 :: (ac.data.toList ++ 58 :: [114, 111, 111, 116])))) := by
  unfold rid
  simp [ByteArray.data_append]

theorem rid_size (pt ac : ByteArray) : (rid pt ac).size = pt.size + ac.size + 15 := by
  have h := congrArg List.length (rid_list pt ac)
  simp at h
  omega

theorem rid_hp (pt ac : ByteArray) : hp (rid pt ac) ⟨#[97, 114, 110, 58]⟩ = true := by
  unfold hp
  rw [decide_eq_true (show (⟨#[97, 114, 110, 58]⟩ : ByteArray).size ≤ (rid pt ac).size by rw [rid_size]; show 4 ≤ _; omega), Lib.toList_data, Lib.toList_data, ext_list, rid_list]
  rfl

theorem noC {s : ByteArray} (h : hasC 58 s = false) : 58 ∉ s.data.toList := by
  unfold hasC at h
  intro hm
  rw [← List.contains_iff_mem, h] at hm
  cases hm

/-- a cut at the first colon, by lists -/
theorem cut_list {s : ByteArray} {l r : List UInt8} (h : s.data.toList = l ++ 58 :: r) (hl : 58 ∉ l) : cutF 58 s = true ∧ (cutA 58 s).data.toList = l ∧ (cutB 58 s).data.toList = r := by
  have hi : ix 58 s = (l.length : Int) := by unfold ix; rw [h]; exact idx_app 58 l r hl
  have hsz : s.size = l.length + 1 + r.length := by
    have : s.data.toList.length = _ := congrArg List.length h
    simp at this
    omega
  refine ⟨?_, ?_, ?_⟩
  · unfold cutF; rw [hi]; exact decide_eq_true (by omega)
  · unfold cutA
    rw [hi, if_neg (by omega), ext_list, h]
    simp
  · unfold cutB
    rw [hi, if_neg (by omega), ext_list, h, hsz]
    simp
    rw [List.take_of_length_le (by simp; omega), List.drop_append]
    simp

theorem rid_parse {pt ac : ByteArray} (h1 : hasC 58 pt = false) (h2 : hasC 58 ac = false) :
    okP (rid pt ac) = true ∧ fld (rid pt ac) 0 = pt ∧ (fld (rid pt ac) 1).toList = [105, 97, 109] ∧ (fld (rid pt ac) 2).toList = [] ∧ fld (rid pt ac) 3 = ac ∧ (fld (rid pt ac) 4).toList = [114, 111, 111, 116] := by
  have r0 := R0_list (rid_hp pt ac)
  rw [rid_list] at r0
  have r0' : (R (rid pt ac) 0).data.toList = pt.data.toList ++ 58 :: ([105, 97, 109] ++ 58 :: ([] ++ 58 :: (ac.data.toList ++ 58 :: [114, 111, 111, 116]))) := r0
  obtain ⟨f0, a0, b0⟩ := cut_list r0' (noC h1)
  obtain ⟨f1, a1, b1⟩ := cut_list (s := R (rid pt ac) 1) b0 (by decide)
  obtain ⟨f2, a2, b2⟩ := cut_list (s := R (rid pt ac) 2) b1 (by decide)
  obtain ⟨f3, a3, b3⟩ := cut_list (s := R (rid pt ac) 3) b2 (noC h2)
  have ho : okP (rid pt ac) = true := by unfold okP; rw [rid_hp, f0, f1, f2, f3]; rfl
  have e : ∀ k, fld (rid pt ac) k = (if k = 4 then R (rid pt ac) 4 else cutA 58 (R (rid pt ac) k)) := fun k => by unfold fld; rw [ho]; rfl
  refine ⟨ho, ?_, ?_, ?_, ?_, ?_⟩
  · rw [e 0, if_neg (by omega)]; exact ba_ext a0
  · rw [e 1, if_neg (by omega), Lib.toList_data]; exact a1
  · rw [e 2, if_neg (by omega), Lib.toList_data]; exact a2
  · rw [e 3, if_neg (by omega)]; exact ba_ext a3
  · rw [e 4, if_pos rfl, Lib.toList_data]; exact b3

theorem hp_root {x : ByteArray} (h : x.toList = [114, 111, 111, 116]) : hp x ⟨#[114, 111, 108, 101, 47]⟩ = false := by
  have hsz : x.size = 4 := by
    rw [Lib.toList_data] at h
    have : x.data.toList.length = 4 := by rw [h]; rfl
    simpa using this
  unfold hp
  rw [decide_eq_false (by rw [hsz]; show ¬ 5 ≤ 4; omega)]
  rfl

/-- THE PLAIN LAW -/
def Root (n : Int) (ok : Bool) (pt ac p a : ByteArray) : Prop :=
  n = 0 ∧ ((ok = true ∧ a.toList.isEmpty = false ∧ (a.toList == ac.toList) = true ∧ (okP p = false ∨ (okP p = true ∧ ((fld p 0).toList == pt.toList) = true))) ∨
   (ok = false ∧ (a.toList.isEmpty = true ∨ (a.toList.isEmpty = false ∧ (a.toList == ac.toList) = false) ∨ (a.toList.isEmpty = false ∧ (a.toList == ac.toList) = true ∧ okP p = true ∧ ((fld p 0).toList == pt.toList) = false))))

theorem beq_comm' {a b : List UInt8} : (a == b) = (b == a) := by
  rw [Bool.eq_iff_iff, beq_iff_eq, beq_iff_eq]
  exact ⟨Eq.symm, Eq.symm⟩

theorem root_law {rb : Bool} {m pt ac p a : ByteArray} (h1 : hasC 58 pt = false) (h2 : hasC 58 ac = false)
    (hr : rb = true → hp (ef (rid pt ac) p 4) ⟨#[114, 111, 108, 101, 47]⟩ = true) : Root (nv rb m (rid pt ac) p a).1 (nv rb m (rid pt ac) p a).2 pt ac p a := by
  obtain ⟨ho, p0, p1, p2, p3, p4⟩ := rid_parse h1 h2
  have haws : aws m (rid pt ac) = false := by
    unfold aws
    have : ((rid pt ac).toList == [42]) = false := by
      rw [beq_eq_false_iff_ne]
      intro e
      rw [Lib.toList_data, rid_list] at e
      simp at e
    rw [this]; simp
  have htd : td (rid pt ac) = false := td_arn ho
  have hrb : rb = false := by
    cases rb with
    | false => rfl
    | true =>
      have := hr rfl
      unfold ef at this
      cases hm : mism (rid pt ac) p with
      | true => rw [hm, if_pos rfl, hp_emp] at this; cases this
      | false => rw [hm, if_neg (by simp), hp_root p4] at this; cases this
  subst hrb
  have hia : (((rid pt ac).toList == a.toList) && td a) = false := by
    cases he : ((rid pt ac).toList == a.toList) with
    | false => rfl
    | true => rw [← td_eq he, htd]; rfl
  unfold nv
  rw [haws, if_neg (by simp), if_neg (by simp), hia, if_neg (c := false = true) (by simp)]
  cases hae : a.toList.isEmpty with
  | true => rw [if_pos rfl]; exact ⟨rfl, .inr ⟨rfl, .inl hae⟩⟩
  | false =>
    rw [if_neg (by simp)]
    cases hm : mism (rid pt ac) p with
    | true =>
      have hroot : isRoot (ef (rid pt ac) p 1) (ef (rid pt ac) p 2) (ef (rid pt ac) p 4) = false := by
        unfold ef; rw [hm]; exact root_emp _ _
      rw [hroot, if_neg (by simp)]
      refine ⟨rfl, .inr ⟨rfl, ?_⟩⟩
      unfold mism at hm
      rw [Bool.and_eq_true, p0] at hm
      cases hac : (a.toList == ac.toList) with
      | false => exact .inr (.inl ⟨hae, rfl⟩)
      | true => exact .inr (.inr ⟨hae, rfl, hm.1, by rw [beq_comm']; simpa using hm.2⟩)
    | false =>
      have hroot : isRoot (ef (rid pt ac) p 1) (ef (rid pt ac) p 2) (ef (rid pt ac) p 4) = true := by
        unfold ef
        rw [hm]
        show isRoot (fld (rid pt ac) 1) (fld (rid pt ac) 2) (fld (rid pt ac) 4) = true
        unfold isRoot glob
        rw [p1, p2, p4]
        decide +kernel
      have hacc : ef (rid pt ac) p 3 = ac := by unfold ef; rw [hm]; exact p3
      rw [hroot, hacc]
      have hpe := mism_pe hm
      rw [p0] at hpe
      cases hac : (ac.toList == a.toList) with
      | true => rw [if_pos (by rfl)]; exact ⟨rfl, .inl ⟨rfl, hae, by rw [beq_comm']; exact hac, hpe⟩⟩
      | false => rw [if_neg (by simp)]; exact ⟨rfl, .inr ⟨rfl, .inr (.inl ⟨hae, by rw [beq_comm']; exact hac⟩)⟩⟩

/-! ### the walk -/
set_option maxHeartbeats 2000000 in
theorem zz15_any (pt ac m p a : ByteArray) (w : World) (h1 : pt.size ≤ 9223372036854775807) (h2 : ac.size ≤ 9223372036854775807) (h3 : m.size ≤ 9223372036854775807) (h4 : p.size ≤ 9223372036854775807) (h5 : a.size ≤ 9223372036854775807) :
    Calls Try.prog 15 #[.string pt, .string ac, .string m, .string p, .string a] w fun e w' => RB e ∧ w' = w := by
  go_enter Try.func15, Try.ntmps15
  go_wp2
  all_goals (go_ret; exact ⟨⟨_, rfl⟩, rfl⟩)

set_option maxHeartbeats 4000000 in
theorem law5_big (pt ac m p a : ByteArray) (w : World) (h1 : pt.size ≤ 9223372036854775807) (h2 : ac.size ≤ 9223372036854775807) (h3 : m.size ≤ 9223372036854775807) (h4 : p.size ≤ 9223372036854775807) (h5 : a.size ≤ 9223372036854775807)
    (hbig : 65536 < pt.size ∨ 65536 < ac.size ∨ 65536 < m.size ∨ 65536 < p.size ∨ 65536 < a.size) :
    Calls Try.prog 5 #[.string pt, .string ac, .string m, .string p, .string a] w fun e w' => e = .returned (.bool true) ∧ Below w.heap.size w w' := by
  have hcases : 65536 < pt.size ∨ (pt.size ≤ 65536 ∧ 65536 < ac.size) ∨ (pt.size ≤ 65536 ∧ ac.size ≤ 65536 ∧ 65536 < m.size) ∨ (pt.size ≤ 65536 ∧ ac.size ≤ 65536 ∧ m.size ≤ 65536 ∧ 65536 < p.size) ∨ (pt.size ≤ 65536 ∧ ac.size ≤ 65536 ∧ m.size ≤ 65536 ∧ p.size ≤ 65536 ∧ 65536 < a.size) := by omega
  clear hbig
  rcases hcases with c1 | ⟨c1, c2⟩ | ⟨c1, c2, c3⟩ | ⟨c1, c2, c3, c4⟩ | ⟨c1, c2, c3, c4, c5⟩
  all_goals
    go_enter Try.func5, Try.ntmps5
    go_wp2_with fail
    refine (zz15_any _ _ _ _ _ _ h1 h2 h3 h4 h5).mono ?_
    rintro e w' ⟨⟨b, rfl⟩, rfl⟩
    cases b
    · go_wp2
      go_ret
      exact ⟨rfl, Below.refl _ _⟩
    · go_wp2_with fail
      go_ret
      exact ⟨rfl, Below.refl _ _⟩

set_option maxHeartbeats 8000000 in
theorem law5_small (pt ac m p a : ByteArray) (w : World) (c1 : pt.size ≤ 65536) (c2 : ac.size ≤ 65536) (c3 : m.size ≤ 65536) (c4 : p.size ≤ 65536) (c5 : a.size ≤ 65536) :
    Calls Try.prog 5 #[.string pt, .string ac, .string m, .string p, .string a] w fun e w' => e = .returned (.bool true) ∧ Below w.heap.size w w' := by
  go_enter Try.func5, Try.ntmps5
  go_wp2_with fail
  refine (zz15_any _ _ _ _ _ _ (by omega) (by omega) (by omega) (by omega) (by omega)).mono ?_
  rintro e w' ⟨⟨b, rfl⟩, rfl⟩
  cases b
  · go_wp2
    go_ret
    exact ⟨rfl, Below.refl _ _⟩
  go_wp2_with fail
  refine (HasByte_any pt _ (by omega)).mono ?_
  rintro e w' ⟨rfl, rfl⟩
  cases hb1 : hasC 58 pt with
  | true =>
    go_wp2_with fail
    go_ret
    exact ⟨rfl, Below.refl _ _⟩
  | false =>
  have H1 : Hid (hasC 58 pt = false) := hb1
  clear hb1
  go_wp2_with fail
  refine (HasByte_any ac _ (by omega)).mono ?_
  rintro e w' ⟨rfl, rfl⟩
  cases hb2 : hasC 58 ac with
  | true =>
    go_wp2_with fail
    go_ret
    exact ⟨rfl, Below.refl _ _⟩
  | false =>
  have H2 : Hid (hasC 58 ac = false) := hb2
  clear hb2
  go_wp2_with fail
  refine (ZZ_any m (rid pt ac) p a _ (by rw [rid_size]; omega) (by omega) (by omega)).mono ?_
  rintro e w1 ⟨⟨rb, rfl, hr⟩, hb⟩
  have hsh := root_law (m := m) (a := a) H1.out H2.out hr
  obtain ⟨n, hn⟩ : ∃ n, (nv rb m (rid pt ac) p a).1 = n := ⟨_, rfl⟩
  obtain ⟨ok, hok⟩ : ∃ ok, (nv rb m (rid pt ac) p a).2 = ok := ⟨_, rfl⟩
  rw [hn, hok] at hsh ⊢
  clear hn hok hr
  have HB : Hid (Below w'.heap.size w' w1) := hb
  clear hb
  obtain ⟨rfl, hsh⟩ := hsh
  rcases hsh with ⟨rfl, q1, q2, q3 | ⟨q3, q4⟩⟩ | ⟨rfl, q1 | ⟨q1, q2⟩ | ⟨q1, q2, q3, q4⟩⟩
  all_goals
    go_wp2_with (go_at_call 11; refine (Part_any _ _ (by omega)).mono ?_; rintro e w2 ⟨rfl, rfl⟩)
    all_goals (go_ret; exact ⟨rfl, HB.out⟩)

theorem law5 (pt ac m p a : ByteArray) (w : World) (h1 : pt.size ≤ 9223372036854775807) (h2 : ac.size ≤ 9223372036854775807) (h3 : m.size ≤ 9223372036854775807) (h4 : p.size ≤ 9223372036854775807) (h5 : a.size ≤ 9223372036854775807) :
    Calls Try.prog 5 #[.string pt, .string ac, .string m, .string p, .string a] w fun e w' => e = .returned (.bool true) ∧ Below w.heap.size w w' := by
  by_cases hbig : 65536 < pt.size ∨ 65536 < ac.size ∨ 65536 < m.size ∨ 65536 < p.size ∨ 65536 < a.size
  · exact law5_big pt ac m p a w h1 h2 h3 h4 h5 hbig
  · exact law5_small pt ac m p a w (by omega) (by omega) (by omega) (by omega) (by omega)

end Go.Proofs.Qxb6600129a.Arn
