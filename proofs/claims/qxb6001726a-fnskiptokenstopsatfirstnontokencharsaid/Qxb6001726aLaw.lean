/- the law's own walk -/
import Derived.Test.Qxb6001726aSkip
import Derived.ProofKit
namespace Go.Proofs.Qxb6001726a.Tok
open Go.RowKit

theorem sub_back {m n : Nat} (h : n ≤ m) : m - (m - n) = n := by omega
theorem sub_backI {m n : Nat} (h : n ≤ m) : (m : Int) - ((m - n : Nat) : Int) = (n : Int) := by omega

theorem not_lt1 {n : Nat} (h : 1 ≤ n) : decide ((n : Int) < 1) = false := by simp; omega
theorem not_ltn {m n : Nat} (h : n ≤ m) : decide (m < n) = false := decide_eq_false (by omega)

set_option maxHeartbeats 400000 in
theorem zzBytes_ok (s : ByteArray) (w : World) (hs : s.size ≤ 1048576) :
    Calls Try.prog 15 #[.string s] w fun e w' => e = .returned (.bool true) ∧ w' = w := by
  go_enter Try.func15, Try.ntmps15
  go_wp2
  go_ret
  exact ⟨rfl, rfl⟩

set_option maxHeartbeats 400000 in
theorem ZZskipToken_any (s : ByteArray) (w : World) (hs : s.size ≤ 1048576) (h1 : 1 ≤ s.size) :
    Calls Try.prog 14 #[.string s] w fun e w' => ∃ n : Nat, e = .returned (.string (s.extract n s.size)) ∧ Stops s n ∧ w' = w := by
  go_enter Try.func14, Try.ntmps14
  go_wp2_with (go_at_call 20; refine (skipToken_any _ _ hs h1).mono ?_; rintro e w' ⟨n, rfl, hn, rfl⟩)
  go_ret
  exact ⟨_, rfl, hn, rfl⟩

set_option maxHeartbeats 1000000 in
theorem law_walk (a0 : ByteArray) (w0 : a0.size ≤ maxLen) (w : World) :
    Calls Try.prog 6 #[.string a0] w fun e w' => e = .returned (.bool true) ∧ w' = w := by
  unfold maxLen at w0
  by_cases hbig : 1048576 < a0.size
  · go_enter Try.func6, Try.ntmps6
    go_wp2
    go_ret
    exact ⟨rfl, rfl⟩
  by_cases hz : a0.size = 0
  · go_enter Try.func6, Try.ntmps6
    go_wp2
    go_ret
    exact ⟨rfl, rfl⟩
  have hle : a0.size ≤ 1048576 := by omega
  have hpos : 1 ≤ a0.size := by omega
  have hc0 : ((a0.size : Int) == 0) = false := beq_eq_false_iff_ne.2 (by omega)
  have hc1 : decide ((1048576 : Int) < (a0.size : Int)) = false := decide_eq_false (by omega)
  clear hbig hz
  go_enter Try.func6, Try.ntmps6
  go_wp2_with (first | (go_at_call 15; refine (zzBytes_ok _ _ hle).mono ?_; rintro e w' ⟨rfl, rfl⟩) | (go_at_call 14; refine (ZZskipToken_any _ _ hle hpos).mono ?_; rintro e w' ⟨n, rfl, hn, rfl⟩; have hn1 := hn.lo; have hn2 := hn.hi; have HN : Hid (Stops a0 n) := hn; clear hn; have hE := sub_back hn2; have hI := sub_backI hn2; have hd1 := not_lt1 hn1; have hd2 := not_ltn hn2))
  clear hE hI hd1 hd2 hc0 hc1
  go_loop [5] (fun i => ∃ k : Nat, 1 ≤ k ∧ k ≤ n ∧ i = .int .i64 k) (fun i => n - (intOf i).toNat)
  case atStart => exact ⟨1, by omega, hn1, rfl⟩
  case round =>
    obtain ⟨k, hk1, hk, rfl⟩ := hrel
    by_cases hlt : k < n
    · have ht : tok ((a0[k]'(by omega)).toNat : Int) = true := by rw [byteAt_eq a0 k (by omega)]; exact HN.out.run k hk1 hlt
      go_wp2_with (go_at_call 16; refine (tokenTail_any _ _).mono ?_; rintro e w' ⟨rfl, rfl⟩)
      go_round
      case rel => exact ⟨k + 1, by omega, by omega, by go_num⟩
      case measure => simp [intOf]; omega
    · by_cases hend : n < a0.size
      · have ht : tok (a0[n].toNat : Int) = false := by rw [byteAt_eq a0 n hend]; exact HN.out.stop hend
        go_wp2_with (go_at_call 16; refine (tokenTail_any _ _).mono ?_; rintro e w' ⟨rfl, rfl⟩)
        go_ret
        exact ⟨rfl, rfl⟩
      · go_wp2
        go_ret
        exact ⟨rfl, rfl⟩

end Go.Proofs.Qxb6001726a.Tok
