/-
  THE WALKS of seat b6602447a, eighth part: the scanner that the law holds valueEnd against: jfIsStop, jfValueEndModel.
-/
import Derived.Test.Qxb6602447aWalkE
namespace Go.Proofs.Qxb6602447a
open Go.RowKit Pl

set_option maxHeartbeats 400000 in
theorem isStop_any (c : Int) (w : World) : Calls Try.prog 24 #[.int .u8 c] w fun e w' => e = .returned (.bool (stopB c)) ∧ w' = w := by
  go_enter Try.func24, Try.ntmps24
  go_wp2
  all_goals
    go_ret
    refine ⟨?_, rfl⟩
    simp [stopB, *]

/-- At the end of the text, whatever the slice's address. -/
theorem model_end (a : Option Addr) (n c : Nat) (w : World) :
    Calls Try.prog 12 #[.slice a n c, .int .i64 n] w fun e w' => e = .returned (.int .i64 (-1)) ∧ w' = w := by
  go_enter Try.func12, Try.ntmps12
  go_wp2
  go_loop [5, 6, 7] (fun st dd jj => st = .int .i64 0 ∧ dd = .int .i64 0 ∧ jj = .int .i64 n) (fun _ _ _ => 0)
  case atStart => exact ⟨rfl, rfl, rfl⟩
  case round =>
    obtain ⟨rfl, rfl, rfl⟩ := hrel
    go_wp2
    go_ret
    exact ⟨rfl, rfl⟩
theorem model_zero (a : Option Addr) (c : Nat) (w : World) : Calls Try.prog 12 #[.slice a 0 c, .int .i64 0] w fun e w' => e = .returned (.int .i64 (-1)) ∧ w' = w := model_end a 0 c w

set_option maxHeartbeats 4000000 in
theorem model_any (b off n c i : Nat) (xs : List Int) (w : World) (hn : n ≤ 1048576) (hi : i ≤ n) (hd : Dat w b off n xs) :
    Calls Try.prog 12 #[.slice (some ⟨b, off, none⟩) n c, .int .i64 i] w fun e w' => e = .returned (.int .i64 (at_ xs 0 0 i)) ∧ w' = w := by
  have HD : Hid (Dat w b off n xs) := hd
  have HL : Hid (xs.length = n) := hd.1
  clear hd
  go_enter Try.func12, Try.ntmps12
  go_wp2
  go_loopw [5, 6, 7] (fun st dd jj wr => ∃ k : Nat, ∃ s d : Int, k ≤ n ∧ 0 ≤ s ∧ s ≤ 6 ∧ -(k : Int) ≤ d ∧ d ≤ k ∧ st = .int .i64 s ∧ dd = .int .i64 d ∧ jj = .int .i64 k ∧ Hid (at_ xs 0 0 i = at_ xs s d k) ∧ wr = w) (fun _ _ jj _ => n - (intOf jj).toNat)
  case atStart => exact ⟨i, 0, 0, by omega, by omega, by omega, by omega, by omega, rfl, rfl, rfl, rfl, rfl⟩
  case round =>
    obtain ⟨k, s, d, hk, hs0, hs6, hd0, hd1, rfl, rfl, rfl, HR, rfl⟩ := hrel
    by_cases h1 : k < n
    rotate_left 1
    · cases hs : (s == 1)
      · go_wp2
        go_ret
        exact ⟨ret_int (by rw [HR.out, at_end xs s d k (by rw [HL.out]; exact h1), if_neg (bf hs)]), rfl⟩
      · obtain rfl := bt hs
        clear hs
        go_wp2
        go_ret
        exact ⟨ret_int (by rw [HR.out, s1_end xs d k (by rw [HL.out]; exact h1)]; omega), rfl⟩
    have hk1 : k < xs.length := by rw [HL.out]; exact h1
    have hcell : wr.cell? ⟨b, off + k, none⟩ = some (.int .u8 (el xs k)) := HD.out.2 k h1
    obtain rfl | rfl | rfl | rfl | rfl | rfl | rfl : s = 0 ∨ s = 1 ∨ s = 2 ∨ s = 3 ∨ s = 4 ∨ s = 5 ∨ s = 6 := by omega
    · -- start
      cases c1 : (el xs k == 34)
      rotate_left 1
      · go_wp2
        go_roundw
        case rel => exact ⟨k + 1, 2, d, by omega, by omega, by omega, by omega, by omega, rfl, rfl, by go_num, HR.out.trans (s0_quote xs d k hk1 (bt c1)), by trivial⟩
        case measure => simp [intOf]; omega
      cases c2 : (el xs k == 123)
      rotate_left 1
      · go_wp2
        go_roundw
        case rel => exact ⟨k + 1, 4, 1, by omega, by omega, by omega, by omega, by omega, rfl, rfl, by go_num, HR.out.trans (s0_open xs d k hk1 (.inl (bt c2))), by trivial⟩
        case measure => simp [intOf]; omega
      cases c3 : (el xs k == 91)
      rotate_left 1
      · go_wp2
        go_roundw
        case rel => exact ⟨k + 1, 4, 1, by omega, by omega, by omega, by omega, by omega, rfl, rfl, by go_num, HR.out.trans (s0_open xs d k hk1 (.inr (bt c3))), by trivial⟩
        case measure => simp [intOf]; omega
      cases c4 : stopB (el xs k)
      · go_wp2_with (go_at_call 24; refine (isStop_any _ _).mono ?_; rintro e w' ⟨rfl, hw⟩; rw [hw]; clear hw)
        go_roundw
        case rel => exact ⟨k + 1, 1, d, by omega, by omega, by omega, by omega, by omega, rfl, rfl, by go_num, HR.out.trans (s0_other xs d k hk1 (bf c1) (bf c2) (bf c3) c4), by trivial⟩
        case measure => simp [intOf]; omega
      · go_wp2_with (go_at_call 24; refine (isStop_any _ _).mono ?_; rintro e w' ⟨rfl, hw⟩; rw [hw]; clear hw)
        go_ret
        exact ⟨ret_int (by rw [HR.out, s0_stop xs d k hk1 (bf c1) (bf c2) (bf c3) c4]), rfl⟩
    · -- literal
      cases c4 : stopB (el xs k)
      · go_wp2_with (go_at_call 24; refine (isStop_any _ _).mono ?_; rintro e w' ⟨rfl, hw⟩; rw [hw]; clear hw)
        go_roundw
        case rel => exact ⟨k + 1, 1, d, by omega, by omega, by omega, by omega, by omega, rfl, rfl, by go_num, HR.out.trans (s1_other xs d k hk1 c4), by trivial⟩
        case measure => simp [intOf]; omega
      · go_wp2_with (go_at_call 24; refine (isStop_any _ _).mono ?_; rintro e w' ⟨rfl, hw⟩; rw [hw]; clear hw)
        go_ret
        exact ⟨ret_int (by rw [HR.out, s1_stop xs d k hk1 c4]), rfl⟩
    · -- string
      cases c1 : (el xs k == 34)
      rotate_left 1
      · go_wp2
        go_ret
        exact ⟨ret_int (by rw [HR.out, s2_quote xs d k hk1 (bt c1)]), rfl⟩
      cases c2 : (el xs k == 92)
      · go_wp2
        go_roundw
        case rel => exact ⟨k + 1, 2, d, by omega, by omega, by omega, by omega, by omega, rfl, rfl, by go_num, HR.out.trans (s2_other xs d k hk1 (bf c1) (bf c2)), by trivial⟩
        case measure => simp [intOf]; omega
      · go_wp2
        go_roundw
        case rel => exact ⟨k + 1, 3, d, by omega, by omega, by omega, by omega, by omega, rfl, rfl, by go_num, HR.out.trans (s2_back xs d k hk1 (bt c2)), by trivial⟩
        case measure => simp [intOf]; omega
    · -- string escape
      go_wp2
      go_roundw
      case rel => exact ⟨k + 1, 2, d, by omega, by omega, by omega, by omega, by omega, rfl, rfl, by go_num, HR.out.trans (s3_any xs d k), by trivial⟩
      case measure => simp [intOf]; omega
    · -- nest
      cases c1 : (el xs k == 34)
      rotate_left 1
      · go_wp2
        go_roundw
        case rel => exact ⟨k + 1, 5, d, by omega, by omega, by omega, by omega, by omega, rfl, rfl, by go_num, HR.out.trans (s4_quote xs d k hk1 (bt c1)), by trivial⟩
        case measure => simp [intOf]; omega
      cases c2 : (el xs k == 123)
      rotate_left 1
      · go_wp2
        go_roundw
        case rel => exact ⟨k + 1, 4, d + 1, by omega, by omega, by omega, by omega, by omega, rfl, rfl, by go_num, HR.out.trans (s4_open xs d k hk1 (.inl (bt c2))), by trivial⟩
        case measure => simp [intOf]; omega
      cases c3 : (el xs k == 91)
      rotate_left 1
      · go_wp2
        go_roundw
        case rel => exact ⟨k + 1, 4, d + 1, by omega, by omega, by omega, by omega, by omega, rfl, rfl, by go_num, HR.out.trans (s4_open xs d k hk1 (.inr (bt c3))), by trivial⟩
        case measure => simp [intOf]; omega
      cases c4 : (el xs k == 125)
      rotate_left 1
      · cases c6 : (d - 1 == 0)
        · go_wp2
          go_roundw
          case rel => exact ⟨k + 1, 4, d - 1, by omega, by omega, by omega, by omega, by omega, rfl, rfl, by go_num, HR.out.trans (s4_shut xs d k hk1 (.inl (bt c4)) (bf c6)), by trivial⟩
          case measure => simp [intOf]; omega
        · go_wp2
          go_ret
          exact ⟨ret_int (by rw [HR.out, s4_last xs d k hk1 (.inl (bt c4)) (bt c6)]), rfl⟩
      cases c5 : (el xs k == 93)
      rotate_left 1
      · cases c6 : (d - 1 == 0)
        · go_wp2
          go_roundw
          case rel => exact ⟨k + 1, 4, d - 1, by omega, by omega, by omega, by omega, by omega, rfl, rfl, by go_num, HR.out.trans (s4_shut xs d k hk1 (.inr (bt c5)) (bf c6)), by trivial⟩
          case measure => simp [intOf]; omega
        · go_wp2
          go_ret
          exact ⟨ret_int (by rw [HR.out, s4_last xs d k hk1 (.inr (bt c5)) (bt c6)]), rfl⟩
      go_wp2
      go_roundw
      case rel => exact ⟨k + 1, 4, d, by omega, by omega, by omega, by omega, by omega, rfl, rfl, by go_num, HR.out.trans (s4_other xs d k hk1 (bf c1) (bf c2) (bf c3) (bf c4) (bf c5)), by trivial⟩
      case measure => simp [intOf]; omega
    · -- nest string
      cases c1 : (el xs k == 34)
      rotate_left 1
      · go_wp2
        go_roundw
        case rel => exact ⟨k + 1, 4, d, by omega, by omega, by omega, by omega, by omega, rfl, rfl, by go_num, HR.out.trans (s5_quote xs d k hk1 (bt c1)), by trivial⟩
        case measure => simp [intOf]; omega
      cases c2 : (el xs k == 92)
      · go_wp2
        go_roundw
        case rel => exact ⟨k + 1, 5, d, by omega, by omega, by omega, by omega, by omega, rfl, rfl, by go_num, HR.out.trans (s5_other xs d k hk1 (bf c1) (bf c2)), by trivial⟩
        case measure => simp [intOf]; omega
      · go_wp2
        go_roundw
        case rel => exact ⟨k + 1, 6, d, by omega, by omega, by omega, by omega, by omega, rfl, rfl, by go_num, HR.out.trans (s5_back xs d k hk1 (bt c2)), by trivial⟩
        case measure => simp [intOf]; omega
    · -- nest escape
      go_wp2
      go_roundw
      case rel => exact ⟨k + 1, 5, d, by omega, by omega, by omega, by omega, by omega, rfl, rfl, by go_num, HR.out.trans (s6_any xs d k hk1), by trivial⟩
      case measure => simp [intOf]; omega

end Go.Proofs.Qxb6602447a
