/-
  THE WALKS of seat b6603212a, second part: stringEnd, ZZstringEnd.
-/
import Derived.Test.Qxb6603212aWalkA
namespace Go.Proofs.Qxb6603212a
open Go.RowKit Pl

theorem byt_nil : Byt [] := by intro j; unfold el; simp

/-- The first quote from place J on, told of the whole text. -/
theorem fst_drop {xs : List Int} {n J : Nat} {r : Int} (hl : xs.length = n) (h : Fst (xs.drop J) 34 r) :
    (r = -1 ∧ ∀ j, j < n - J → ¬ el xs (J + j) = 34) ∨ ∃ m : Nat, r = m ∧ m < n - J ∧ el xs (J + m) = 34 ∧ ∀ j, j < m → ¬ el xs (J + j) = 34 := by
  have hel : ∀ j, el (xs.drop J) j = el xs (J + j) := fun j => by unfold el; simp
  unfold Fst at h
  simp only [hel, List.length_drop, hl] at h
  exact h

/-- No quote from place J on: the end of the text. -/
theorem no_quote (xs : List Int) (i d J n : Nat) (hJ : J = i + 1 + d) (hl : xs.length = n) (hJn : J ≤ n) (hno : ∀ j, j < n - J → ¬ el xs (J + j) = 34) : at_ xs (odd (rn xs i d)) (i + 1 + d) = (n : Int) := by
  subst hJ
  rw [steps_on xs i d (n - (i + 1 + d)) (by omega) hno, at_end xs _ _ (by omega)]
  omega

/-- The next quote stands at place J + m, behind an even number of backslashes. -/
theorem found_even (xs : List Int) (i d J m n : Nat) (hJ : J = i + 1 + d) (hl : xs.length = n) (hm : J + m < n) (hno : ∀ j, j < m → ¬ el xs (J + j) = 34) (hq : el xs (J + m) = 34) (hr : rn xs i (d + m) % 2 = 0) :
    at_ xs (odd (rn xs i d)) (i + 1 + d) = (J : Int) + m + 1 := by
  subst hJ
  have e : i + 1 + d + m = i + 1 + (d + m) := by omega
  rw [steps_on xs i d m (by omega) hno, quote_even xs i (d + m) (by omega) (by rw [← e]; exact hq) hr]
  omega
/-- .. behind an odd number. -/
theorem found_odd (xs : List Int) (i d J m n : Nat) (hJ : J = i + 1 + d) (hl : xs.length = n) (hm : J + m < n) (hno : ∀ j, j < m → ¬ el xs (J + j) = 34) (hq : el xs (J + m) = 34) (hr : ¬ rn xs i (d + m) % 2 = 0) :
    at_ xs (odd (rn xs i d)) (i + 1 + d) = at_ xs (odd (rn xs i (d + m + 1))) (i + 1 + (d + m + 1)) := by
  subst hJ
  have e : i + 1 + d + m = i + 1 + (d + m) := by omega
  rw [steps_on xs i d m (by omega) hno, quote_odd xs i (d + m) (by omega) (by rw [← e]; exact hq) hr]

set_option maxHeartbeats 1600000 in
theorem stringEnd_any (b off n i : Nat) (xs : List Int) (w : World) (hn : n ≤ 1048576) (hi : i < n) (hd : Dat w b off n xs) (hb : Byt xs) (h92 : ¬ el xs i = 92) :
    Calls Try.prog 29 #[.slice (some ⟨b, off, none⟩) n n, .int .i64 i] w fun e w' => e = .returned (.int .i64 (at_ xs false (i + 1))) ∧ w' = w := by
  have HD : Hid (Dat w b off n xs) := hd
  have HL : Hid (xs.length = n) := hd.1
  have HB : Hid (Byt xs) := hb
  have H92 : Hid (¬ el xs i = 92) := h92
  clear hd hb h92
  go_enter Try.func29, Try.ntmps29
  go_wp2
  go_loop [5] (fun t => ∃ J d : Nat, Hid (J = i + 1 + d) ∧ J ≤ n ∧ i < J ∧ t = .int .i64 J ∧ Hid (at_ xs false (i + 1) = at_ xs (odd (rn xs i d)) (i + 1 + d))) (fun t => n + 1 - (intOf t).toNat)
  case atStart => exact ⟨i + 1, 0, rfl, by omega, by omega, by go_num, rfl⟩
  case round =>
    obtain ⟨J, d, HJ, hJn, hiJ, rfl, HR⟩ := hrel
    by_cases hJ : J = n
    · subst hJ
      go_wp2_with fail
      refine (ib_any b off 0 0 [] w ⟨rfl, fun j hj => absurd hj (Nat.not_lt_zero j)⟩ byt_nil).mono ?_
      rintro e w' ⟨r, rfl, hr, hw⟩
      rw [hw]
      clear hw
      obtain rfl : r = -1 := by
        rcases hr with ⟨h, _⟩ | ⟨m, _, h, _⟩
        · exact h
        · exact absurd h (Nat.not_lt_zero m)
      clear hr
      go_wp2
      go_ret
      exact ⟨ret_int (by rw [HR.out, at_end xs _ _ (by rw [HL.out]; exact HJ.out.symm), ← HJ.out]), rfl⟩
    · have hlt : J < n := by omega
      have HDJ : Hid (Dat w b (off + J) (n - J) (xs.drop J)) := dat_drop HD.out hJn
      have hJ' : ¬ n = J := by omega
      go_wp2_with fail
      refine (ib_any b (off + J) (n - J) (n - J) (xs.drop J) w HDJ.out (byt_drop HB.out)).mono ?_
      rintro e w' ⟨r, rfl, hr, hw⟩
      rw [hw]
      clear hw
      have HR2 : Hid ((r = -1 ∧ ∀ j, j < n - J → ¬ el xs (J + j) = 34) ∨ ∃ m : Nat, r = m ∧ m < n - J ∧ el xs (J + m) = 34 ∧ ∀ j, j < m → ¬ el xs (J + j) = 34) := fst_drop HL.out hr
      clear hr
      rcases HR2.out with ⟨rfl, hno⟩ | ⟨m, rfl, hm, hq, hno⟩
      · have HN : Hid (∀ j, j < n - J → ¬ el xs (J + j) = 34) := hno
        clear hno HR2
        go_wp2
        go_ret
        exact ⟨ret_int (by rw [HR.out]; exact (no_quote xs i d J n HJ.out HL.out hJn HN.out).symm), rfl⟩
      · have HN : Hid (∀ j, j < m → ¬ el xs (J + j) = 34) := hno
        have HQ : Hid (el xs (J + m) = 34) := hq
        clear hno HR2 hq
        obtain ⟨R, hR⟩ : ∃ R, rn xs i (d + m) = R := ⟨_, rfl⟩
        have HRn : Hid (rn xs i (d + m) = R) := hR
        have hRle : R ≤ J + m - 1 := by have := rn_le xs i (d + m); have := HJ.out; omega
        have HBk : Hid (∀ e, e < R → el xs (J + m - 1 - e) = 92) := fun e he => by
          have := rn_back xs i (d + m) e (by omega)
          have h2 := HJ.out
          rwa [show i + (d + m) - e = J + m - 1 - e from by omega] at this
        have HSt : Hid (¬ el xs (J + m - 1 - R) = 92) := by
          have := rn_stop xs i H92.out (d + m)
          have h2 := HJ.out
          rw [hR] at this
          rwa [show i + (d + m) - R = J + m - 1 - R from by omega] at this
        clear hR
        have hJ1 : 1 ≤ J := by omega
        have hJm : J + m < n := by omega
        go_wp2
        go_loop [7] (fun t => ∃ e : Nat, e ≤ R ∧ t = .int .i64 e) (fun t => R - (intOf t).toNat)
        case atStart => exact ⟨0, Nat.zero_le _, rfl⟩
        case round =>
          obtain ⟨e, he, rfl⟩ := hrel
          by_cases hlt2 : e < R
          · have hcell : w.cell? ⟨b, off + (J + m - 1 - e), none⟩ = some (.int .u8 92) := by have := HD.out.2 (J + m - 1 - e) (by omega); rw [HBk.out e hlt2] at this; exact this
            go_wp2
            go_round
            case rel => exact ⟨e + 1, by omega, by go_num⟩
            case measure => simp [intOf]; omega
          · obtain rfl : e = R := by omega
            have hcell : w.cell? ⟨b, off + (J + m - 1 - e), none⟩ = some (.int .u8 (el xs (J + m - 1 - e))) := HD.out.2 (J + m - 1 - e) (by omega)
            have t1 : (el xs (J + m - 1 - e) == 92) = false := by have := HSt.out; simpa using this
            go_wp2
            · have c1 : ((e : Int) % 2 == 0) = true := by assumption
              go_ret
              exact ⟨ret_int (by rw [HR.out]; exact (found_even xs i d J m n HJ.out HL.out hJm HN.out HQ.out (by rw [HRn.out]; have := bt c1; omega)).symm), rfl⟩
            · have c1 : ((e : Int) % 2 == 0) = false := by assumption
              go_round
              case rel => exact ⟨J + m + 1, d + m + 1, by have := HJ.out; unfold Hid; omega, by omega, by omega, by go_num, HR.out.trans (found_odd xs i d J m n HJ.out HL.out hJm HN.out HQ.out (by rw [HRn.out]; have := bf c1; omega))⟩
              case measure => simp [intOf]; omega

theorem zz_any (b off n i : Nat) (xs : List Int) (w : World) (hn : n ≤ 1048576) (hi : i < n) (hd : Dat w b off n xs) (hb : Byt xs) (h92 : ¬ el xs i = 92) :
    Calls Try.prog 17 #[.slice (some ⟨b, off, none⟩) n n, .int .i64 i] w fun e w' => e = .returned (.int .i64 (at_ xs false (i + 1))) ∧ w' = w := by
  have Z : Hid (Calls Try.prog 29 #[.slice (some ⟨b, off, none⟩) n n, .int .i64 i] w fun e w' => e = .returned (.int .i64 (at_ xs false (i + 1))) ∧ w' = w) := stringEnd_any b off n i xs w hn hi hd hb h92
  clear hd hb h92
  go_enter Try.func17, Try.ntmps17
  go_wp2_with fail
  refine Z.out.mono ?_
  rintro e w' ⟨rfl, hw⟩
  rw [hw]
  clear hw
  go_wp2
  go_ret
  exact ⟨rfl, rfl⟩

theorem below_drewN {B m : Nat} {w w' : World} (h : Below B w w') : Below B w (w'.drewN m) := ⟨h.os, h.tape, h.output, h.size, h.block⟩

set_option maxHeartbeats 400000 in
/-- The place holds a backslash: true at once. -/
theorem law_back (b off n c i : Nat) (w : World) (hn : n ≤ 1048576) (hi : i < n) (hcell : w.cell? ⟨b, off + i, none⟩ = some (.int .u8 92)) :
    Calls Try.prog 5 #[.slice (some ⟨b, off, none⟩) n c, .int .i64 i] w fun e w' => e = .returned (.bool true) ∧ Below w.heap.size w w' := by
  have h1 : ¬ n ≤ i := by omega
  go_enter Try.func5, Try.ntmps5
  go_wp2_with fail
  refine (zb_yes _ _ _ _ _ hn).mono ?_
  rintro e w' ⟨rfl, hw⟩
  rw [hw]
  clear hw
  go_wp2_with fail
  go_ret
  exact ⟨rfl, Below.refl _ _⟩

set_option maxHeartbeats 400000 in
/-- Else: both answers are one. -/
theorem law_in (b off n c i : Nat) (xs : List Int) (w : World) (hn : n ≤ 1048576) (hi : i < n) (hd : Dat w b off n xs) (hb : Byt xs) (h92 : ¬ el xs i = 92) :
    Calls Try.prog 5 #[.slice (some ⟨b, off, none⟩) n c, .int .i64 i] w fun e w' => e = .returned (.bool true) ∧ Below w.heap.size w w' := by
  have Z1 : Hid (∀ w', Dat w' w.heap.size 0 n xs → Calls Try.prog 17 #[.slice (some ⟨w.heap.size, 0, none⟩) n n, .int .i64 i] w' fun e w'' => e = .returned (.int .i64 (at_ xs false (i + 1))) ∧ w'' = w') :=
    fun w' h => zz_any w.heap.size 0 n i xs w' hn hi h hb h92
  have Z2 : Hid (∀ w', Dat w' w.heap.size 0 n xs → Calls Try.prog 18 #[.slice (some ⟨w.heap.size, 0, none⟩) n n, .int .i64 i] w' fun e w'' => e = .returned (.int .i64 (at_ xs false (i + 1))) ∧ w'' = w') :=
    fun w' h => model_any w.heap.size 0 n n i xs w' hn hi h
  obtain ⟨W, hW⟩ : ∃ W, at_ xs false (i + 1) = W := ⟨_, rfl⟩
  rw [hW] at Z1 Z2
  have hcell := hd.2 i hi
  have HD : Hid (Dat w b off n xs) := hd
  have t1 : (el xs i == 92) = false := by simpa using h92
  have h1 : ¬ n ≤ i := by omega
  clear hW hb hd h92
  go_enter Try.func5, Try.ntmps5
  go_wp2_with fail
  refine (zb_yes _ _ _ _ _ hn).mono ?_
  rintro e w' ⟨rfl, hw⟩
  rw [hw]
  clear hw
  go_wp2_with fail
  refine (clone_some b off n c xs _ hn (by omega) HD.out).mono ?_
  rintro e w1 ⟨rfl, hrow, hbel⟩
  have HD1 : Hid (Dat w1 w.heap.size 0 n xs) := dat_of_row hrow HD.out.1
  have HB : Hid (Below w.heap.size w w1) := hbel
  clear hrow hbel
  go_wp2_with fail
  refine (Z1.out _ HD1.out).mono ?_
  rintro e w' ⟨rfl, hw⟩
  rw [hw]
  clear hw
  go_wp2_with fail
  refine (Z2.out _ HD1.out).mono ?_
  rintro e w' ⟨rfl, hw⟩
  rw [hw]
  clear hw
  go_wp2
  go_ret
  exact ⟨by first | rfl | simp, HB.out⟩

end Go.Proofs.Qxb6603212a
