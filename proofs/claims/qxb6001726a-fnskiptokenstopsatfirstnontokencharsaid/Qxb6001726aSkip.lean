/- skipToken: a contract by the place where it stops. -/
import Derived.Test.Qxb6001726aTok
namespace Go.Proofs.Qxb6001726a.Tok
open Go.RowKit

theorem ret_str {a b : ByteArray} (h : a = b) : Ending.returned (.string a) = .returned (.string b) := by rw [h]

/-- the byte at a place, as a number (0 beyond the end) -/
def byteAt (s : ByteArray) (i : Nat) : Int := ((s.data.toList.getD i 0).toNat : Int)
theorem byteAt_eq (s : ByteArray) (i : Nat) (h : i < s.size) : (s[i].toNat : Int) = byteAt s i := by
  unfold byteAt
  have h' : i < s.data.toList.length := by simpa using h
  rw [List.getD_eq_getElem?_getD, List.getElem?_eq_getElem h']
  rfl
theorem byteAt_bd (s : ByteArray) (i : Nat) : 0 ≤ byteAt s i ∧ byteAt s i < 256 := by
  unfold byteAt
  have := (s.data.toList.getD i 0).toNat_lt
  omega

/-- n: the place where skipToken stops -/
structure Stops (s : ByteArray) (n : Nat) : Prop where
  lo : 1 ≤ n
  hi : n ≤ s.size
  run : ∀ i, 1 ≤ i → i < n → tok (byteAt s i) = true
  stop : n < s.size → tok (byteAt s n) = false

set_option maxHeartbeats 1000000 in
theorem skipToken_any (s : ByteArray) (w : World) (hs : s.size ≤ 1048576) (h1 : 1 ≤ s.size) :
    Calls Try.prog 20 #[.string s] w fun e w' => ∃ n : Nat, e = .returned (.string (s.extract n s.size)) ∧ Stops s n ∧ w' = w := by
  go_enter Try.func20, Try.ntmps20
  go_wp2
  go_loop [3] (fun i => ∃ k : Nat, 1 ≤ k ∧ k ≤ s.size ∧ i = .int .i64 k ∧ ∀ j, 1 ≤ j → j < k → tok (byteAt s j) = true) (fun i => s.size - (intOf i).toNat)
  case atStart => exact ⟨1, by omega, h1, rfl, fun j _ _ => by omega⟩
  case round =>
    obtain ⟨k, hk1, hk, rfl, hrun⟩ := hrel
    have HR : Hid (∀ j, 1 ≤ j → j < k → tok (byteAt s j) = true) := hrun
    clear hrun
    by_cases hlt : k < s.size
    · have hb := byteAt_bd s k
      have HE : Hid ((s[k].toNat : Int) = byteAt s k) := byteAt_eq s k hlt
      by_cases ht : tok (s[k].toNat : Int) = true
      · go_wp2_with (go_at_call 22; refine (isTokenChar_any _ (by omega) (by have := s[k].toNat_lt; omega) _).mono ?_; rintro e w' ⟨rfl, rfl⟩)
        go_round
        case rel => exact ⟨k + 1, by omega, by omega, by go_num, fun j a b => by
          by_cases hj : j < k
          · exact HR.out j a hj
          · have : j = k := by omega
            subst this; rw [← HE.out]; exact ht⟩
        case measure => simp [intOf]; omega
      · have ht' : tok (s[k].toNat : Int) = false := by simpa using ht
        clear ht
        go_wp2_with (go_at_call 22; refine (isTokenChar_any _ (by omega) (by have := s[k].toNat_lt; omega) _).mono ?_; rintro e w' ⟨rfl, rfl⟩)
        go_ret
        exact ⟨k, rfl, ⟨hk1, hk, HR.out, fun _ => by rw [← HE.out]; exact ht'⟩, rfl⟩
    · go_wp2
      go_ret
      exact ⟨k, rfl, ⟨hk1, hk, HR.out, fun h => absurd h hlt⟩, rfl⟩

end Go.Proofs.Qxb6001726a.Tok
