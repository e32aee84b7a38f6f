/- b1PartitionOf -/
import Derived.Test.Qxb6600129aPlain
namespace Go.Proofs.Qxb6600129a.Arn
open Go.RowKit
set_option linter.unusedVariables false

theorem hp_short {s : ByteArray} (h : s.size < 4) : hp s ⟨#[97, 114, 110, 58]⟩ = false := by
  unfold hp
  rw [decide_eq_false (by show ¬ 4 ≤ s.size; omega)]
  rfl

theorem l4 : ∀ (l : List UInt8) (h : 4 ≤ l.length), (true && (l.take 4).drop 0 == [97, 114, 110, 58]) = (l[0] == 97 && l[1] == 114 && l[2] == 110 && l[3] == 58)
  | a :: b :: c :: d :: r, _ => by
    show (true && ([a, b, c, d] == [97, 114, 110, 58])) = (a == 97 && b == 114 && c == 110 && d == 58)
    rw [Bool.eq_iff_iff]
    simp [and_assoc]

theorem hp_arn {s : ByteArray} (h : 4 ≤ s.size) : hp s ⟨#[97, 114, 110, 58]⟩ = (s[0] == 97 && s[1] == 114 && s[2] == 110 && s[3] == 58) := by
  have hl : 4 ≤ s.data.toList.length := by simpa using h
  unfold hp
  rw [decide_eq_true (show (⟨#[97, 114, 110, 58]⟩ : ByteArray).size ≤ s.size from h), Lib.toList_data, Lib.toList_data, ext_list]
  have e : ∀ k (hk : k < s.size), s[k] = s.data.toList[k]'(by simpa using hk) := fun k hk => rfl
  rw [e 0, e 1, e 2, e 3]
  exact l4 s.data.toList hl

theorem hp_bad {s : ByteArray} (h : 4 ≤ s.size) (e : ¬ ((s[0].toNat : Int) = 97 ∧ (s[1].toNat : Int) = 114 ∧ (s[2].toNat : Int) = 110 ∧ (s[3].toNat : Int) = 58)) : hp s ⟨#[97, 114, 110, 58]⟩ = false := by
  rw [hp_arn h, ← Bool.not_eq_true]
  simp only [Bool.and_eq_true, beq_iff_eq]
  rintro ⟨⟨⟨a, b⟩, c⟩, d⟩
  apply e
  rw [a, b, c, d]
  exact ⟨rfl, rfl, rfl, rfl⟩
theorem u8_of {b : UInt8} {n : Nat} (hn : n < 256) (h : (b.toNat : Int) = n) : b = UInt8.ofNat n := by
  apply UInt8.toNat_inj.1
  simp
  omega
theorem hp_good {s : ByteArray} (h : 4 ≤ s.size) (a : (s[0].toNat : Int) = 97) (b : (s[1].toNat : Int) = 114) (c : (s[2].toNat : Int) = 110) (d : (s[3].toNat : Int) = 58) : hp s ⟨#[97, 114, 110, 58]⟩ = true := by
  rw [hp_arn h, u8_of (n := 97) (by omega) a, u8_of (n := 114) (by omega) b, u8_of (n := 110) (by omega) c, u8_of (n := 58) (by omega) d]
  rfl

/-- the colons among the first t bytes behind the head -/
def cT (s : ByteArray) (t : Nat) : Nat := ((s.data.toList.drop 4).take t).count 58

theorem R0_list {s : ByteArray} (h : hp s ⟨#[97, 114, 110, 58]⟩ = true) : (R s 0).data.toList = s.data.toList.drop 4 := by
  show (cp s ⟨#[97, 114, 110, 58]⟩).data.toList = _
  unfold cp
  rw [h, if_pos rfl, ext_list, List.take_of_length_le (by simp)]
  rfl

theorem byte_at {s : ByteArray} {t : Nat} (h : 4 + t < s.size) : (s.data.toList.drop 4)[t]? = some s[4 + t] := by
  have h' : 4 + t < s.data.toList.length := by simpa using h
  rw [List.getElem?_drop, List.getElem?_eq_getElem h']
  rfl

theorem take_one {l : List UInt8} {t : Nat} {b : UInt8} (h : l[t]? = some b) : l.take (t + 1) = l.take t ++ [b] := by
  obtain ⟨hl, e⟩ := List.getElem?_eq_some_iff.1 h
  rw [List.take_succ_eq_append_getElem hl, e]

theorem cT_hit {s : ByteArray} {t : Nat} (h : 4 + t < s.size) (e : ((s[4 + t].toNat : Int) == 58) = true) : cT s (t + 1) = cT s t + 1 := by
  unfold cT
  have e1 : s[4 + t] = 58 := u8_of (n := 58) (by omega) (by simpa using e)
  rw [take_one (byte_at h), List.count_append, e1]
  rfl
theorem cT_miss {s : ByteArray} {t : Nat} (h : 4 + t < s.size) (e : ((s[4 + t].toNat : Int) == 58) = false) : cT s (t + 1) = cT s t := by
  unfold cT
  have e1 : s[4 + t] ≠ 58 := by
    intro e1
    rw [e1] at e
    revert e
    decide
  rw [take_one (byte_at h), List.count_append, List.count_singleton]
  have : (s[4 + t] == 58) = false := beq_eq_false_iff_ne.2 e1
  rw [this]
  simp
theorem cT_le (s : ByteArray) (t : Nat) : cT s t ≤ t := by
  unfold cT
  exact Nat.le_trans List.count_le_length (List.length_take_le _ _)
theorem cT_all {s : ByteArray} (h : hp s ⟨#[97, 114, 110, 58]⟩ = true) {t : Nat} (ht : s.size ≤ 4 + t) : cT s t = cnt (R s 0) := by
  unfold cT cnt
  rw [R0_list h, List.take_of_length_le (by simp; omega)]
theorem cT_first {s : ByteArray} (hh : hp s ⟨#[97, 114, 110, 58]⟩ = true) {t : Nat} (h : 4 + t < s.size) (h0 : cT s t = 0) (e : ((s[4 + t].toNat : Int) == 58) = true) : ix 58 (R s 0) = (t : Int) := by
  have e1 : s[4 + t] = 58 := u8_of (n := 58) (by omega) (by simpa using e)
  have hb := byte_at h
  rw [e1] at hb
  obtain ⟨hl, hg⟩ := List.getElem?_eq_some_iff.1 hb
  unfold ix
  rw [R0_list hh]
  have he : s.data.toList.drop 4 = (s.data.toList.drop 4).take t ++ 58 :: (s.data.toList.drop 4).drop (t + 1) := by
    have := List.take_append_drop t (s.data.toList.drop 4)
    rw [List.drop_eq_getElem_cons hl, hg] at this
    exact this.symm
  rw [he, idx_app 58 _ _ (List.count_eq_zero.1 h0)]
  simp
  simp at hl
  omega

/-- where the first colon behind the head stands, as the loop knows it -/
def En (s : ByteArray) (t : Nat) (en : Int) : Prop := (cT s t = 0 → en = -1) ∧ (0 < cT s t → en = 4 + ix 58 (R s 0))

theorem part_val {s : ByteArray} (hh : hp s ⟨#[97, 114, 110, 58]⟩ = true) (h4 : 4 ≤ cnt (R s 0)) : ∃ i : Nat, ix 58 (R s 0) = (i : Int) ∧ 4 + i ≤ s.size ∧ s.extract 4 (4 + i) = fld s 0 := by
  obtain ⟨i, hi, hlt, _, _⟩ := ix_of_pos (s := R s 0) (by omega)
  have hl := R0_list hh
  have hsz : (R s 0).size = s.size - 4 := by
    have : (R s 0).data.toList.length = (s.data.toList.drop 4).length := by rw [hl]
    simpa using this
  refine ⟨i, hi, by omega, ?_⟩
  have ho : okP s = true := by rw [okP_cnt hh]; exact decide_eq_true h4
  unfold fld
  rw [ho, if_pos rfl, if_neg (by omega)]
  unfold cutA
  rw [hi, if_neg (by omega)]
  apply ba_ext
  rw [ext_list, ext_list, hl]
  simp [List.take_drop]

set_option maxHeartbeats 2000000 in
theorem Part_no (s : ByteArray) (w : World) (hs : s.size ≤ 1000000000) (hh : hp s ⟨#[97, 114, 110, 58]⟩ = false) :
    Calls Try.prog 11 #[.string s] w fun e w' => e = .returned (.tuple #[.string (fld s 0), .bool (okP s)]) ∧ w' = w := by
  have ho : okP s = false := by unfold okP; rw [hh]; rfl
  have hf : fld s 0 = ⟨#[]⟩ := by unfold fld; rw [ho]; rfl
  rw [ho, hf]
  clear ho hf
  by_cases h4 : s.size < 4
  · go_enter Try.func11, Try.ntmps11
    go_wp2
    go_ret2
    exact ⟨rfl, rfl⟩
  have h4' : 4 ≤ s.size := by omega
  clear h4
  have HH : Hid (hp s ⟨#[97, 114, 110, 58]⟩ = false) := hh
  clear hh
  by_cases a : (s[0].toNat : Int) = 97
  · by_cases b : (s[1].toNat : Int) = 114
    · by_cases c : (s[2].toNat : Int) = 110
      · by_cases d : (s[3].toNat : Int) = 58
        · have := hp_good h4' a b c d
          rw [HH.out] at this
          cases this
        · have d' : ((s[3].toNat : Int) != 58) = true := by simpa using d
          clear d
          go_enter Try.func11, Try.ntmps11
          go_wp2
          go_ret2
          exact ⟨rfl, rfl⟩
      · have c' : ((s[2].toNat : Int) != 110) = true := by simpa using c
        clear c
        go_enter Try.func11, Try.ntmps11
        go_wp2
        go_ret2
        exact ⟨rfl, rfl⟩
    · have b' : ((s[1].toNat : Int) != 114) = true := by simpa using b
      clear b
      go_enter Try.func11, Try.ntmps11
      go_wp2
      go_ret2
      exact ⟨rfl, rfl⟩
  · have a' : ((s[0].toNat : Int) != 97) = true := by simpa using a
    clear a
    go_enter Try.func11, Try.ntmps11
    go_wp2
    go_ret2
    exact ⟨rfl, rfl⟩

set_option maxHeartbeats 2000000 in
theorem Part_yes (s : ByteArray) (w : World) (hs : s.size ≤ 1000000000) (hh : hp s ⟨#[97, 114, 110, 58]⟩ = true) :
    Calls Try.prog 11 #[.string s] w fun e w' => e = .returned (.tuple #[.string (fld s 0), .bool (okP s)]) ∧ w' = w := by
  have h4 : 4 ≤ s.size := by
    by_cases h : s.size < 4
    · rw [hp_short h] at hh; cases hh
    · omega
  by_cases hall : (s[0].toNat : Int) = 97 ∧ (s[1].toNat : Int) = 114 ∧ (s[2].toNat : Int) = 110 ∧ (s[3].toNat : Int) = 58
  case neg => rw [hp_bad h4 hall] at hh; cases hh
  obtain ⟨a, b, c, d⟩ := hall
  have HH : Hid (hp s ⟨#[97, 114, 110, 58]⟩ = true) := hh
  clear hh
  go_enter Try.func11, Try.ntmps11
  go_wp2
  go_loop [4, 5, 6] (fun cl en j => ∃ (t : Nat) (q : Int), 4 + t ≤ s.size ∧ j = .int .i64 (4 + (t : Int)) ∧ cl = .int .i64 (cT s t) ∧ en = .int .i64 q ∧ En s t q) (fun _ _ j => s.size - (intOf j).toNat)
  case atStart => exact ⟨0, -1, by omega, rfl, rfl, rfl, fun _ => rfl, fun h => by simp [cT] at h⟩
  case round =>
    obtain ⟨t, q, ht, rfl, rfl, rfl, hen⟩ := hrel
    have HE : Hid (En s t q) := hen
    clear hen
    have hct := cT_le s t
    by_cases hlt : 4 + t < s.size
    · go_wp2
      · have m1 : ((s[4 + t].toNat : Int) == 58) = true := by assumption
        have m2 : ((cT s t : Int) == 0) = true := by assumption
        have m3 : cT s t = 0 := by simpa using m2
        go_round
        case rel => exact ⟨t + 1, 4 + t, by omega, by go_num, by rw [cT_hit hlt m1]; go_num, rfl, fun h => by rw [cT_hit hlt m1] at h; omega, fun _ => by rw [cT_first HH.out hlt m3 m1]⟩
        case measure => simp [intOf]; omega
      · have m1 : ((s[4 + t].toNat : Int) == 58) = true := by assumption
        have m2 : ((cT s t : Int) == 0) = false := by assumption
        have m3 : 0 < cT s t := by
          have : cT s t ≠ 0 := by simpa using m2
          omega
        go_round
        case rel => exact ⟨t + 1, q, by omega, by go_num, by rw [cT_hit hlt m1]; go_num, rfl, fun h => by rw [cT_hit hlt m1] at h; omega, fun _ => HE.out.2 m3⟩
        case measure => simp [intOf]; omega
      · have m1 : ((s[4 + t].toNat : Int) == 58) = false := by assumption
        go_round
        case rel => exact ⟨t + 1, q, by omega, by go_num, by rw [cT_miss hlt m1], rfl, by unfold En; rw [cT_miss hlt m1]; exact HE.out⟩
        case measure => simp [intOf]; omega
    · have hcn := cT_all HH.out (t := t) (by omega)
      have hok := okP_cnt HH.out
      by_cases hc4 : cT s t < 4
      · have ho : okP s = false := by rw [hok]; exact decide_eq_false (by omega)
        have hf : fld s 0 = ⟨#[]⟩ := by unfold fld; rw [ho]; rfl
        have HR : Hid (Value.tuple #[.string ⟨#[]⟩, .bool false] = Value.tuple #[.string (fld s 0), .bool (okP s)]) := by rw [ho, hf]; exact rfl
        clear hok hcn ho hf
        go_wp2
        go_ret2
        exact ⟨by rw [← HR.out]; rfl, rfl⟩
      · have ho : okP s = true := by rw [hok]; exact decide_eq_true (by omega)
        obtain ⟨n, hn, hnl, hx⟩ := part_val HH.out (by omega)
        have hq := HE.out.2 (by omega)
        rw [hn] at hq
        subst hq
        have HR : Hid (Value.tuple #[.string (s.extract 4 (4 + n)), .bool true] = Value.tuple #[.string (fld s 0), .bool (okP s)]) := by rw [ho, hx]; exact rfl
        clear hok hcn ho hx hn HE
        have h5 : 4 ≤ cT s t := by omega
        clear hc4
        go_wp2
        go_ret2
        exact ⟨by rw [← HR.out]; rfl, rfl⟩

theorem Part_any (s : ByteArray) (w : World) (hs : s.size ≤ 1000000000) :
    Calls Try.prog 11 #[.string s] w fun e w' => e = .returned (.tuple #[.string (fld s 0), .bool (okP s)]) ∧ w' = w := by
  cases h : hp s ⟨#[97, 114, 110, 58]⟩ with
  | false => exact Part_no s w hs h
  | true => exact Part_yes s w hs h

end Go.Proofs.Qxb6600129a.Arn
