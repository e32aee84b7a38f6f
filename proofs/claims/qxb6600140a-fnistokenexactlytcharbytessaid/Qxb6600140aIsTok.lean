/- strings.ContainsRune over the symbols; isToken -/
import Derived.Test.Qxb6600140aRune
namespace Go.Proofs.Qxb6600140a.Tok
open Go.RowKit
set_option linter.unusedVariables false

theorem SY_asc : Asc ⟨#[33, 35, 36, 37, 38, 39, 42, 43, 45, 46, 94, 95, 96, 124, 126]⟩ := by
  intro b hb
  revert b
  decide +kernel

set_option maxHeartbeats 1000000 in
theorem Contains_low (r : Int) (w : World) (h0 : 0 ≤ r) (h1 : r < 128) :
    Calls Try.prog 33 #[.string ⟨#[33, 35, 36, 37, 38, 39, 42, 43, 45, 46, 94, 95, 96, 124, 126]⟩, .int .i32 r] w fun e w' => e = .returned (.bool (sym r)) ∧ w' = w := by
  go_enter Try.func33, Try.ntmps33
  go_wp2_with (go_at_call 35; refine (IndexRune_low _ _ _ h0 h1).mono ?_; rintro e w' ⟨rfl, rfl⟩)
  go_ret
  exact ⟨ret_bool (sym_of h0 (by omega)), rfl⟩

set_option maxHeartbeats 1000000 in
theorem Contains_high (r : Int) (w : World) (h0 : 128 ≤ r) :
    Calls Try.prog 33 #[.string ⟨#[33, 35, 36, 37, 38, 39, 42, 43, 45, 46, 94, 95, 96, 124, 126]⟩, .int .i32 r] w fun e w' => e = .returned (.bool false) ∧ Below w.heap.size w w' := by
  have C : Calls Try.prog 35 #[.string ⟨#[33, 35, 36, 37, 38, 39, 42, 43, 45, 46, 94, 95, 96, 124, 126]⟩, .int .i32 r] w fun e w' => e = .returned (.int .i64 (-1)) ∧ Below w.heap.size w w' := by
    by_cases h1 : r = 65533
    · subst h1
      exact IndexRune_err _ w SY_asc
    · cases hv : vr r with
      | false => exact IndexRune_bad _ r w h0 h1 hv
      | true => exact IndexRune_high _ r w SY_asc (by decide) (by decide) h0 h1 hv
  have HC : Hid (Calls Try.prog 35 #[.string ⟨#[33, 35, 36, 37, 38, 39, 42, 43, 45, 46, 94, 95, 96, 124, 126]⟩, .int .i32 r] w fun e w' => e = .returned (.int .i64 (-1)) ∧ Below w.heap.size w w') := C
  clear C
  go_enter Try.func33, Try.ntmps33
  go_wp2_with fail
  refine Calls.mono HC.out ?_
  rintro e w' ⟨rfl, hb⟩
  go_wp2
  go_ret
  exact ⟨rfl, hb⟩

/-- a token: not empty, every byte a tchar -/
def isTok (s : ByteArray) : Bool := decide (0 < s.size) && s.data.toList.all (fun b => tch (b.toNat : Int))
theorem isTok_bad {s : ByteArray} {k : Nat} (h : k < s.size) (e : tch (s[k].toNat : Int) = false) : isTok s = false := by
  unfold isTok
  have : s.data.toList.all (fun b => tch (b.toNat : Int)) = false := by
    rw [List.all_eq_false]
    exact ⟨s[k], List.getElem_mem (l := s.data.toList) (n := k) (by simpa using h), by simpa using e⟩
  rw [this]; simp
theorem isTok_good {s : ByteArray} (h : ∀ j (hj : j < s.size), tch (s[j].toNat : Int) = true) : isTok s = decide (0 < s.size) := by
  unfold isTok
  rw [List.all_eq_true.2]
  · simp
  · intro b hb
    obtain ⟨j, hj, rfl⟩ := List.getElem_of_mem hb
    exact h j (by simpa using hj)

theorem tch_sym {c : Int} (a : ¬ ((97 ≤ c ∧ c ≤ 122) ∨ (65 ≤ c ∧ c ≤ 90) ∨ (48 ≤ c ∧ c ≤ 57))) : tch c = sym c := by
  unfold tch sym
  rw [Bool.eq_iff_iff]
  simp only [decide_eq_true_eq]
  omega
theorem tch_high {c : Int} (h : 128 ≤ c) : tch c = false := (f_of (by omega)).symm

theorem empty_dec (s : ByteArray) : (!s.toList.isEmpty) = decide (0 < s.size) := by
  rw [Lib.toList_data, Bool.eq_iff_iff]
  have e : s.size = s.data.toList.length := by simp
  rw [e]
  cases s.data.toList <;> simp

set_option maxHeartbeats 2000000 in
theorem isToken_any (s : ByteArray) (w : World) (hs : s.size ≤ 9223372036854775807) :
    Calls Try.prog 29 #[.string s] w fun e w' => e = .returned (.bool (isTok s)) ∧ Below w.heap.size w w' := by
  go_enter Try.func29, Try.ntmps29
  go_wp2_with fail
  go_loopw [] (fun wr => ∃ pos : Nat, wr = w.iter s pos ∧ pos ≤ s.size ∧ ∀ j (hj : j < s.size), j < pos → tch (s[j].toNat : Int) = true) (fun wr => s.size - wr.iterPos w.heap.size)
  case atStart => exact ⟨0, rfl, by omega, fun j _ h => by omega⟩
  case round =>
    obtain ⟨pos, rfl, hps, hr⟩ := hrel
    have HR : Hid (∀ j (hj : j < s.size), j < pos → tch (s[j].toNat : Int) = true) := hr
    clear hr
    by_cases hp : pos < s.size
    · by_cases hlow : (s[pos]'hp).toNat < 128
      · have hnx : ∀ ty, (Instr.next (.pointer (some ⟨w.heap.size, 0, none⟩)) true ty).run Try.prog (w.iter s pos) = _ := fun ty => run_next_ascii w s pos ty hp hlow
        have step : tch (s[pos].toNat : Int) = true → ∀ j (hj : j < s.size), j < pos + 1 → tch (s[j].toNat : Int) = true := fun ht j hj hjk => by
          by_cases hjk' : j < pos
          · exact HR.out j hj hjk'
          · obtain rfl : j = pos := by omega
            exact ht
        have HS : Hid (tch (s[pos].toNat : Int) = true → ∀ j (hj : j < s.size), j < pos + 1 → tch (s[j].toNat : Int) = true) := step
        clear step
        by_cases hld : (97 ≤ (s[pos].toNat : Int) ∧ (s[pos].toNat : Int) ≤ 122) ∨ (65 ≤ (s[pos].toNat : Int) ∧ (s[pos].toNat : Int) ≤ 90) ∨ (48 ≤ (s[pos].toNat : Int) ∧ (s[pos].toNat : Int) ≤ 57)
        · have HT : Hid (tch (s[pos].toNat : Int) = true) := (t_of (by omega)).symm
          rcases hld with ⟨d1, d2⟩ | ⟨d1, d2⟩ | ⟨d1, d2⟩
          all_goals
            go_wp2_with fail
            go_roundw
            case rel => exact ⟨pos + 1, rfl, by omega, HS.out HT.out⟩
            case measure => simp; omega
        · have HT : Hid (tch (s[pos].toNat : Int) = sym (s[pos].toNat : Int)) := tch_sym hld
          have hcs : (s[pos].toNat : Int) < 48 ∨ (57 < (s[pos].toNat : Int) ∧ (s[pos].toNat : Int) < 65) ∨ (90 < (s[pos].toNat : Int) ∧ (s[pos].toNat : Int) < 97) ∨ 122 < (s[pos].toNat : Int) := by omega
          clear hld
          cases hsy : sym (s[pos].toNat : Int) with
          | true =>
            rcases hcs with d1 | ⟨d1, d2⟩ | ⟨d1, d2⟩ | d1
            all_goals
              go_wp2_with (go_at_call 33; refine (Contains_low _ _ (by omega) (by omega)).mono ?_; rintro e w' ⟨rfl, rfl⟩)
              go_roundw
              case rel => exact ⟨pos + 1, rfl, by omega, HS.out (HT.out.trans hsy)⟩
              case measure => simp; omega
          | false =>
            rcases hcs with d1 | ⟨d1, d2⟩ | ⟨d1, d2⟩ | d1
            all_goals
              go_wp2_with (go_at_call 33; refine (Contains_low _ _ (by omega) (by omega)).mono ?_; rintro e w' ⟨rfl, rfl⟩)
              all_goals first | (go_ret; exact ⟨ret_bool (isTok_bad hp (HT.out.trans hsy)).symm, (Below.refl _ _).alloc (Nat.le_refl _) _⟩) | (exfalso; go_light; simp only [Bool.not_eq_false', decide_eq_true_eq] at *; omega)
      · have hnx : ∀ ty, (Instr.next (.pointer (some ⟨w.heap.size, 0, none⟩)) true ty).run Try.prog (w.iter s pos) = _ := fun ty => run_next_any w s pos ty hp
        have hbad : Hid (isTok s = false) := isTok_bad hp (tch_high (by omega))
        obtain ⟨dh, _⟩ := decode_high s pos hp (by omega)
        have dl := decode_le s pos
        have dh' : (128 : Int) ≤ ((Utf8.decode s pos).1 : Int) := by omega
        clear dh
        go_wp2_with (go_at_call 33; refine (Contains_high _ _ (by omega)).mono ?_; rintro e w1 ⟨rfl, hb⟩)
        all_goals first | (go_ret; exact ⟨ret_bool hbad.out.symm, ((Below.refl _ _).alloc (Nat.le_refl _) _).trans (hb.mono (by show w.heap.size ≤ (w.alloc _).heap.size; simp))⟩) | (exfalso; go_light; simp only [Bool.not_eq_false', decide_eq_true_eq] at *; omega)
    · have hnx : ∀ ty, (Instr.next (.pointer (some ⟨w.heap.size, 0, none⟩)) true ty).run Try.prog (w.iter s pos) = _ := fun ty => run_next_end w s pos ty hp
      go_wp2
      go_ret
      exact ⟨ret_bool (by rw [isTok_good fun j hj => HR.out j hj (by omega)]; exact empty_dec s), (Below.refl _ _).alloc (Nat.le_refl _) _⟩

set_option maxHeartbeats 400000 in
theorem ZZ_any (s : ByteArray) (w : World) (hs : s.size ≤ 9223372036854775807) :
    Calls Try.prog 11 #[.string s] w fun e w' => e = .returned (.bool (isTok s)) ∧ Below w.heap.size w w' := by
  go_enter Try.func11, Try.ntmps11
  go_wp2_with (go_at_call 29; refine (isToken_any _ _ hs).mono ?_; rintro e w' ⟨rfl, hb⟩)
  go_ret
  exact ⟨rfl, hb⟩

/-! ### the law -/
set_option maxHeartbeats 2000000 in
theorem law_walk (s : ByteArray) (w : World) (w0 : s.size ≤ 9223372036854775807) :
    Calls Try.prog 3 #[.string s] w fun e w' => e = .returned (.bool true) ∧ Below w.heap.size w w' := by
  by_cases hbig : 1048576 < s.size
  · go_enter Try.func3, Try.ntmps3
    go_wp2
    go_ret
    exact ⟨rfl, Below.refl _ _⟩
  have hle : s.size ≤ 1048576 := by omega
  have hc1 : decide ((1048576 : Int) < (s.size : Int)) = false := decide_eq_false (by omega)
  clear hbig
  go_enter Try.func3, Try.ntmps3
  go_wp2_with (go_at_call 9; refine (zzBytes_ok _ _ hle).mono ?_; rintro e w' ⟨rfl, rfl⟩)
  clear hc1
  go_loop [3, 4] (fun want i => ∃ k : Nat, k ≤ s.size ∧ i = .int .i64 k ∧ want = .bool (decide (0 < s.size)) ∧ ∀ j (hj : j < s.size), j < k → tch (s[j].toNat : Int) = true) (fun _ i => s.size - (intOf i).toNat)
  case atStart => exact ⟨0, by omega, rfl, by simp, fun j _ h => by omega⟩
  case round =>
    obtain ⟨k, hk, rfl, rfl, hr⟩ := hrel
    have HR : Hid (∀ j (hj : j < s.size), j < k → tch (s[j].toNat : Int) = true) := hr
    clear hr
    by_cases hlt : k < s.size
    · cases ht : tch (s[k].toNat : Int) with
      | true =>
        have HT : Hid (tch (s[k].toNat : Int) = true) := ht
        go_wp2_with (go_at_call 10; refine (isTchar_any _ _).mono ?_; rintro e w' ⟨rfl, rfl⟩)
        go_round
        case rel =>
          refine ⟨k + 1, by omega, by go_num, rfl, fun j hj hjk => ?_⟩
          by_cases hjk' : j < k
          · exact HR.out j hj hjk'
          · obtain rfl : j = k := by omega
            exact HT.out
        case measure => simp [intOf]; omega
      | false =>
        have HF : Hid (isTok s = false) := isTok_bad hlt ht
        go_wp2_with (first | (go_at_call 10; refine (isTchar_any _ _).mono ?_; rintro e w' ⟨rfl, rfl⟩) | (go_at_call 11; refine (ZZ_any _ _ w0).mono ?_; rintro e w1 ⟨rfl, hb⟩; rw [HF.out]))
        go_ret
        exact ⟨rfl, hb⟩
    · have HG : Hid (isTok s = decide (0 < s.size)) := isTok_good fun j hj => HR.out j hj (by omega)
      go_wp2_with (go_at_call 11; refine (ZZ_any _ _ w0).mono ?_; rintro e w1 ⟨rfl, hb⟩; rw [HG.out])
      go_ret
      exact ⟨ret_bool (by simp), hb⟩

end Go.Proofs.Qxb6600140a.Tok
