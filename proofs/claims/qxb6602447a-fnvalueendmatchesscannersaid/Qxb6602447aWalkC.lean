/-
  THE WALKS of seat b6602447a, third part: literalEnd, valueEnd, ZZValueEnd.
-/
import Derived.Test.Qxb6602447aWalkB
namespace Go.Proofs.Qxb6602447a
open Go.RowKit Pl

/-- Each number is a byte's. -/
def Byt (xs : List Int) : Prop := ∀ j, 0 ≤ el xs j ∧ el xs j < 256

set_option maxHeartbeats 400000 in
theorem literalEnd_any (b off n c i : Nat) (xs : List Int) (w : World) (hn : n ≤ 1048576) (hi : i ≤ n) (hd : Dat w b off n xs) (hb : Byt xs) :
    Calls Try.prog 29 #[.slice (some ⟨b, off, none⟩) n c, .int .i64 i] w fun e w' => e = .returned (.int .i64 (at_ xs 1 0 i)) ∧ ∃ m, w' = w.drewN m := by
  obtain ⟨hl, hc⟩ := hd
  have HL : Hid (xs.length = n) := hl
  clear hl
  go_enter Try.func29, Try.ntmps29
  go_wp2
  go_loopw [1] (fun t wr => ∃ k m : Nat, k ≤ n ∧ t = .int .i64 k ∧ Hid (at_ xs 1 0 i = at_ xs 1 0 k) ∧ wr = w.drewN m) (fun t _ => n - (intOf t).toNat)
  case atStart => exact ⟨i, 0, by omega, rfl, rfl, rfl⟩
  case round =>
    obtain ⟨k, m, hk, rfl, HR, rfl⟩ := hrel
    by_cases h1 : k < n
    · have hcell : w.cell? ⟨b, off + k, none⟩ = some (.int .u8 (el xs k)) := hc k h1
      obtain ⟨hb0, hb1⟩ := hb k
      have hb2 : wrap32 (el xs k) = el xs k := by unfold wrap32; omega
      clear hc hb
      go_wp2_with (go_at_call 31; refine (cr_any _ _ hb0 hb1).mono ?_; rintro e w' ⟨rfl, m', rfl⟩)
      · have h2 : (!stopB (el xs k)) = true := by assumption
        go_roundw
        case rel => exact ⟨k + 1, m + m', by omega, by go_num, HR.out.trans (s1_other xs 0 k (by rw [HL.out]; exact h1) (by simpa using h2)), rfl⟩
        case measure => simp [intOf]; omega
      · have h2 : (!stopB (el xs k)) = false := by assumption
        go_ret
        exact ⟨ret_int (by rw [HR.out, s1_stop xs 0 k (by rw [HL.out]; exact h1) (by simpa using h2)]), _, rfl⟩
    · go_wp2
      go_ret
      exact ⟨ret_int (by rw [HR.out, s1_end xs 0 k (by rw [HL.out]; exact h1)]), m, rfl⟩

/-- At the end of the text, whatever the slice's address. -/
theorem valueEnd_end (a : Option Addr) (n c : Nat) (w : World) :
    Calls Try.prog 23 #[.slice a n c, .int .i64 n] w fun e w' => e = .returned (.int .i64 (-1)) ∧ w' = w := by
  go_enter Try.func23, Try.ntmps23
  go_wp2
  go_ret
  exact ⟨rfl, rfl⟩

theorem lit_found (xs : List Int) (i : Nat) (h : i < xs.length) (c1 : ¬ el xs i = 34) (c2 : ¬ el xs i = 123) (c3 : ¬ el xs i = 91) (h5 : (i : Int) < at_ xs 1 0 i) : at_ xs 1 0 i = at_ xs 0 0 i := by
  cases hs : stopB (el xs i) with
  | true => rw [s1_stop xs 0 i h hs] at h5; omega
  | false => rw [s1_other xs 0 i h hs, s0_other xs 0 i h c1 c2 c3 hs]
theorem lit_none (xs : List Int) (i : Nat) (h : i < xs.length) (c1 : ¬ el xs i = 34) (c2 : ¬ el xs i = 123) (c3 : ¬ el xs i = 91) (h5 : at_ xs 1 0 i ≤ (i : Int)) : -1 = at_ xs 0 0 i := by
  cases hs : stopB (el xs i) with
  | true => rw [s0_stop xs 0 i h c1 c2 c3 hs]
  | false =>
    have h6 := at_lit xs 0 (i + 1) (by omega)
    rw [s1_other xs 0 i h hs] at h5
    omega
theorem start_open (xs : List Int) (i : Nat) (h : i < xs.length) (c : el xs i = 123 ∨ el xs i = 91) : at_ xs 0 0 i = at_ xs 4 0 i := by
  rw [s0_open xs 0 i h c, s4_open xs 0 i h c]; rfl

set_option maxHeartbeats 800000 in
theorem valueEnd_nest2 (b off n c i : Nat) (xs : List Int) (w : World) (hn : n ≤ 1048576) (hi : i < n) (HD : Hid (Dat w b off n xs)) (HL : Hid (xs.length = n)) (HO : Hid (el xs i = 123 ∨ el xs i = 91))
    (t0 : ((i : Int) == (n : Int)) = false) (t1 : (el xs i == 34) = false) (t2 : (el xs i == 123) = true) :
    Calls Try.prog 23 #[.slice (some ⟨b, off, none⟩) n c, .int .i64 i] w fun e w' => e = .returned (.int .i64 (at_ xs 0 0 i)) ∧ ∃ m, w' = w.drewN m := by
  have hcell := HD.out.2 i hi
  have hlt : i < xs.length := by rw [HL.out]; exact hi
  go_enter Try.func23, Try.ntmps23
  go_wp2
  go_loopw [1, 5] (fun t dd wr => ∃ k : Nat, ∃ d : Int, k ≤ n ∧ -(k : Int) ≤ d ∧ d ≤ k ∧ t = .int .i64 k ∧ dd = .int .i64 d ∧ Hid (at_ xs 0 0 i = at_ xs 4 d k) ∧ wr = w) (fun t _ _ => n - (intOf t).toNat)
  case atStart => exact ⟨i, 0, by omega, by omega, by omega, rfl, rfl, start_open xs i hlt HO, rfl⟩
  case round =>
    obtain ⟨k, d, hk, hd0, hd1, rfl, rfl, HR, rfl⟩ := hrel
    by_cases h1 : k < n
    · obtain ⟨e, he⟩ : ∃ e, at_ xs 2 0 (k + 1) = e := ⟨_, rfl⟩
      have HE : Hid (at_ xs 2 0 (k + 1) = e) := he
      have hk1 : k < xs.length := by rw [HL.out]; exact h1
      have HEr : Hid (e = -1 ∨ ((k : Int) + 1 ≤ e ∧ e ≤ n)) := by have := at_range xs 2 0 (k + 1) (by omega); rw [he, HL.out] at this; unfold Hid; omega
      have he0 : -1 ≤ e := by have := HEr.out; omega
      have he1 : e ≤ n := by have := HEr.out; omega
      have hcell2 : wr.cell? ⟨b, off + k, none⟩ = some (.int .u8 (el xs k)) := HD.out.2 k h1
      have HS : Hid (∀ w, Dat w b off n xs → Calls Try.prog 28 #[.slice (some ⟨b, off, none⟩) n c, .int .i64 k] w fun e' w' => e' = .returned (.int .i64 e) ∧ w' = w) := fun w hw => by
        have := stringEnd_any b off n c k xs w hn h1 hw
        rw [he] at this; exact this
      clear he
      go_wp2_with (go_at_call 28; refine (HS.out _ HD.out).mono ?_; rintro e' w' ⟨rfl, hw⟩; rw [hw]; clear hw)
      · have c1 : (el xs k == 34) = true := by assumption
        have c2 : e < 0 := by assumption
        go_ret
        exact ⟨ret_int (by rw [HR.out, s4_quote xs d k hk1 (bt c1), s5_none xs d (k + 1) (by rw [HE.out]; exact c2)]), 0, rfl⟩
      · have c1 : (el xs k == 34) = true := by assumption
        have c2 : 0 ≤ e := by assumption
        obtain ⟨e', rfl⟩ : ∃ e' : Nat, e = e' := ⟨e.toNat, by omega⟩
        have c3 := HEr.out
        go_roundw
        case rel => exact ⟨e', d, by omega, by omega, by omega, rfl, rfl, HR.out.trans ((s4_quote xs d k hk1 (bt c1)).trans (s5_string xs d (k + 1) e' HE.out)), by trivial⟩
        case measure => simp [intOf]; omega
      · have c1 : (el xs k == 123) = true := by assumption
        go_roundw
        case rel => exact ⟨k + 1, d + 1, by omega, by omega, by omega, by go_num, rfl, HR.out.trans (s4_open xs d k hk1 (.inl (bt c1))), by trivial⟩
        case measure => simp [intOf]; omega
      · have c1 : (el xs k == 91) = true := by assumption
        go_roundw
        case rel => exact ⟨k + 1, d + 1, by omega, by omega, by omega, by go_num, rfl, HR.out.trans (s4_open xs d k hk1 (.inr (bt c1))), by trivial⟩
        case measure => simp [intOf]; omega
      · have c1 : (el xs k == 125) = true := by assumption
        have c2 : (d - 1 == 0) = true := by assumption
        go_ret
        exact ⟨ret_int (by rw [HR.out, s4_last xs d k hk1 (.inl (bt c1)) (bt c2)]), 0, rfl⟩
      · have c1 : (el xs k == 125) = true := by assumption
        have c2 : (d - 1 == 0) = false := by assumption
        go_roundw
        case rel => exact ⟨k + 1, d - 1, by omega, by omega, by omega, by go_num, rfl, HR.out.trans (s4_shut xs d k hk1 (.inl (bt c1)) (bf c2)), by trivial⟩
        case measure => simp [intOf]; omega
      · have c1 : (el xs k == 93) = true := by assumption
        have c2 : (d - 1 == 0) = true := by assumption
        go_ret
        exact ⟨ret_int (by rw [HR.out, s4_last xs d k hk1 (.inr (bt c1)) (bt c2)]), 0, rfl⟩
      · have c1 : (el xs k == 93) = true := by assumption
        have c2 : (d - 1 == 0) = false := by assumption
        go_roundw
        case rel => exact ⟨k + 1, d - 1, by omega, by omega, by omega, by go_num, rfl, HR.out.trans (s4_shut xs d k hk1 (.inr (bt c1)) (bf c2)), by trivial⟩
        case measure => simp [intOf]; omega
      · have c1 : (el xs k == 34) = false := by assumption
        have c2 : (el xs k == 123) = false := by assumption
        have c3 : (el xs k == 91) = false := by assumption
        have c4 : (el xs k == 125) = false := by assumption
        have c5 : (el xs k == 93) = false := by assumption
        go_roundw
        case rel => exact ⟨k + 1, d, by omega, by omega, by omega, by go_num, rfl, HR.out.trans (s4_other xs d k hk1 (bf c1) (bf c2) (bf c3) (bf c4) (bf c5)), by trivial⟩
        case measure => simp [intOf]; omega
    · go_wp2
      go_ret
      exact ⟨ret_int (by rw [HR.out, at_end xs 4 d k (by rw [HL.out]; exact h1)]; rfl), 0, rfl⟩

set_option maxHeartbeats 800000 in
theorem valueEnd_nest3 (b off n c i : Nat) (xs : List Int) (w : World) (hn : n ≤ 1048576) (hi : i < n) (HD : Hid (Dat w b off n xs)) (HL : Hid (xs.length = n)) (HO : Hid (el xs i = 123 ∨ el xs i = 91))
    (t0 : ((i : Int) == (n : Int)) = false) (t1 : (el xs i == 34) = false) (t2 : (el xs i == 123) = false) (t3 : (el xs i == 91) = true) :
    Calls Try.prog 23 #[.slice (some ⟨b, off, none⟩) n c, .int .i64 i] w fun e w' => e = .returned (.int .i64 (at_ xs 0 0 i)) ∧ ∃ m, w' = w.drewN m := by
  have hcell := HD.out.2 i hi
  have hlt : i < xs.length := by rw [HL.out]; exact hi
  go_enter Try.func23, Try.ntmps23
  go_wp2
  go_loopw [1, 5] (fun t dd wr => ∃ k : Nat, ∃ d : Int, k ≤ n ∧ -(k : Int) ≤ d ∧ d ≤ k ∧ t = .int .i64 k ∧ dd = .int .i64 d ∧ Hid (at_ xs 0 0 i = at_ xs 4 d k) ∧ wr = w) (fun t _ _ => n - (intOf t).toNat)
  case atStart => exact ⟨i, 0, by omega, by omega, by omega, rfl, rfl, start_open xs i hlt HO, rfl⟩
  case round =>
    obtain ⟨k, d, hk, hd0, hd1, rfl, rfl, HR, rfl⟩ := hrel
    by_cases h1 : k < n
    · obtain ⟨e, he⟩ : ∃ e, at_ xs 2 0 (k + 1) = e := ⟨_, rfl⟩
      have HE : Hid (at_ xs 2 0 (k + 1) = e) := he
      have hk1 : k < xs.length := by rw [HL.out]; exact h1
      have HEr : Hid (e = -1 ∨ ((k : Int) + 1 ≤ e ∧ e ≤ n)) := by have := at_range xs 2 0 (k + 1) (by omega); rw [he, HL.out] at this; unfold Hid; omega
      have he0 : -1 ≤ e := by have := HEr.out; omega
      have he1 : e ≤ n := by have := HEr.out; omega
      have hcell2 : wr.cell? ⟨b, off + k, none⟩ = some (.int .u8 (el xs k)) := HD.out.2 k h1
      have HS : Hid (∀ w, Dat w b off n xs → Calls Try.prog 28 #[.slice (some ⟨b, off, none⟩) n c, .int .i64 k] w fun e' w' => e' = .returned (.int .i64 e) ∧ w' = w) := fun w hw => by
        have := stringEnd_any b off n c k xs w hn h1 hw
        rw [he] at this; exact this
      clear he
      go_wp2_with (go_at_call 28; refine (HS.out _ HD.out).mono ?_; rintro e' w' ⟨rfl, hw⟩; rw [hw]; clear hw)
      · have c1 : (el xs k == 34) = true := by assumption
        have c2 : e < 0 := by assumption
        go_ret
        exact ⟨ret_int (by rw [HR.out, s4_quote xs d k hk1 (bt c1), s5_none xs d (k + 1) (by rw [HE.out]; exact c2)]), 0, rfl⟩
      · have c1 : (el xs k == 34) = true := by assumption
        have c2 : 0 ≤ e := by assumption
        obtain ⟨e', rfl⟩ : ∃ e' : Nat, e = e' := ⟨e.toNat, by omega⟩
        have c3 := HEr.out
        go_roundw
        case rel => exact ⟨e', d, by omega, by omega, by omega, rfl, rfl, HR.out.trans ((s4_quote xs d k hk1 (bt c1)).trans (s5_string xs d (k + 1) e' HE.out)), by trivial⟩
        case measure => simp [intOf]; omega
      · have c1 : (el xs k == 123) = true := by assumption
        go_roundw
        case rel => exact ⟨k + 1, d + 1, by omega, by omega, by omega, by go_num, rfl, HR.out.trans (s4_open xs d k hk1 (.inl (bt c1))), by trivial⟩
        case measure => simp [intOf]; omega
      · have c1 : (el xs k == 91) = true := by assumption
        go_roundw
        case rel => exact ⟨k + 1, d + 1, by omega, by omega, by omega, by go_num, rfl, HR.out.trans (s4_open xs d k hk1 (.inr (bt c1))), by trivial⟩
        case measure => simp [intOf]; omega
      · have c1 : (el xs k == 125) = true := by assumption
        have c2 : (d - 1 == 0) = true := by assumption
        go_ret
        exact ⟨ret_int (by rw [HR.out, s4_last xs d k hk1 (.inl (bt c1)) (bt c2)]), 0, rfl⟩
      · have c1 : (el xs k == 125) = true := by assumption
        have c2 : (d - 1 == 0) = false := by assumption
        go_roundw
        case rel => exact ⟨k + 1, d - 1, by omega, by omega, by omega, by go_num, rfl, HR.out.trans (s4_shut xs d k hk1 (.inl (bt c1)) (bf c2)), by trivial⟩
        case measure => simp [intOf]; omega
      · have c1 : (el xs k == 93) = true := by assumption
        have c2 : (d - 1 == 0) = true := by assumption
        go_ret
        exact ⟨ret_int (by rw [HR.out, s4_last xs d k hk1 (.inr (bt c1)) (bt c2)]), 0, rfl⟩
      · have c1 : (el xs k == 93) = true := by assumption
        have c2 : (d - 1 == 0) = false := by assumption
        go_roundw
        case rel => exact ⟨k + 1, d - 1, by omega, by omega, by omega, by go_num, rfl, HR.out.trans (s4_shut xs d k hk1 (.inr (bt c1)) (bf c2)), by trivial⟩
        case measure => simp [intOf]; omega
      · have c1 : (el xs k == 34) = false := by assumption
        have c2 : (el xs k == 123) = false := by assumption
        have c3 : (el xs k == 91) = false := by assumption
        have c4 : (el xs k == 125) = false := by assumption
        have c5 : (el xs k == 93) = false := by assumption
        go_roundw
        case rel => exact ⟨k + 1, d, by omega, by omega, by omega, by go_num, rfl, HR.out.trans (s4_other xs d k hk1 (bf c1) (bf c2) (bf c3) (bf c4) (bf c5)), by trivial⟩
        case measure => simp [intOf]; omega
    · go_wp2
      go_ret
      exact ⟨ret_int (by rw [HR.out, at_end xs 4 d k (by rw [HL.out]; exact h1)]; rfl), 0, rfl⟩

set_option maxHeartbeats 400000 in
theorem valueEnd_in (b off n c i : Nat) (xs : List Int) (w : World) (hn : n ≤ 1048576) (hi : i < n) (hd : Dat w b off n xs) (hb : Byt xs) :
    Calls Try.prog 23 #[.slice (some ⟨b, off, none⟩) n c, .int .i64 i] w fun e w' => e = .returned (.int .i64 (at_ xs 0 0 i)) ∧ ∃ m, w' = w.drewN m := by
  have HD : Hid (Dat w b off n xs) := hd
  have HB : Hid (Byt xs) := hb
  have hcell := hd.2 i hi
  have HL : Hid (xs.length = n) := hd.1
  have hlt : i < xs.length := by rw [HL.out]; exact hi
  clear hd hb
  have t0 : ((i : Int) == (n : Int)) = false := by simp; omega
  cases t1 : (el xs i == 34)
  rotate_left 1
  · go_enter Try.func23, Try.ntmps23
    go_wp2_with (go_at_call 28; refine (stringEnd_any b off n c i xs _ hn hi HD).mono ?_; rintro e w' ⟨rfl, rfl⟩)
    go_ret
    exact ⟨ret_int (s0_quote xs 0 i hlt (bt t1)).symm, 0, rfl⟩
  by_cases HO : Hid (el xs i = 123 ∨ el xs i = 91)
  rotate_left 1
  · have t2 : (el xs i == 123) = false := by have := HO; unfold Hid at this; simp; omega
    have t3 : (el xs i == 91) = false := by have := HO; unfold Hid at this; simp; omega
    clear HO
    go_enter Try.func23, Try.ntmps23
    go_wp2_with (go_at_call 29; refine (literalEnd_any b off n c i xs _ hn (Nat.le_of_lt hi) HD HB).mono ?_; rintro e w' ⟨rfl, m, rfl⟩)
    · have h5 : (i : Int) < at_ xs 1 0 i := by assumption
      go_ret
      exact ⟨ret_int (lit_found xs i hlt (bf t1) (bf t2) (bf t3) h5), _, rfl⟩
    · have h5 : at_ xs 1 0 i ≤ (i : Int) := by assumption
      go_ret
      exact ⟨ret_int (lit_none xs i hlt (bf t1) (bf t2) (bf t3) h5), _, rfl⟩
  obtain ⟨y, hy⟩ : ∃ y, (el xs i == 123) = y := ⟨_, rfl⟩
  have t4 : (el xs i == 123 || el xs i == 91) = true := by have := HO.out; simp; omega
  cases y
  · have t3 : (el xs i == 91) = true := by simpa [hy] using t4
    clear t4
    exact valueEnd_nest3 b off n c i xs w hn hi HD HL HO t0 t1 hy t3
  · clear t4
    exact valueEnd_nest2 b off n c i xs w hn hi HD HL HO t0 t1 hy

/-- valueEnd, at whatever place of a text that lies at an address. -/
theorem valueEnd_any (b off n c i : Nat) (xs : List Int) (w : World) (hn : n ≤ 1048576) (hi : i ≤ n) (hd : Dat w b off n xs) (hb : Byt xs) :
    Calls Try.prog 23 #[.slice (some ⟨b, off, none⟩) n c, .int .i64 i] w fun e w' => e = .returned (.int .i64 (at_ xs 0 0 i)) ∧ ∃ m, w' = w.drewN m := by
  by_cases h : i < n
  · exact valueEnd_in b off n c i xs w hn h hd hb
  · have e : i = n := by omega
    subst e
    refine (valueEnd_end _ i c w).mono fun e w' ⟨he, hw⟩ => ⟨?_, 0, hw⟩
    rw [he, at_end xs 0 0 i (by rw [hd.1]; omega)]
    rfl

/-- ZZValueEnd, likewise; and at a text of no byte, whatever its address. -/
theorem zz_any (b off n c i : Nat) (xs : List Int) (w : World) (hn : n ≤ 1048576) (hi : i ≤ n) (hd : Dat w b off n xs) (hb : Byt xs) :
    Calls Try.prog 11 #[.slice (some ⟨b, off, none⟩) n c, .int .i64 i] w fun e w' => e = .returned (.int .i64 (at_ xs 0 0 i)) ∧ ∃ m, w' = w.drewN m := by
  have HD : Hid (Dat w b off n xs) := hd
  clear hd
  go_enter Try.func11, Try.ntmps11
  go_wp2_with (go_at_call 23; refine (valueEnd_any b off n c i xs _ hn hi HD hb).mono ?_; rintro e w' ⟨rfl, m, rfl⟩)
  go_ret
  exact ⟨rfl, m, rfl⟩
theorem zz_end (a : Option Addr) (n c : Nat) (w : World) :
    Calls Try.prog 11 #[.slice a n c, .int .i64 n] w fun e w' => e = .returned (.int .i64 (-1)) ∧ w' = w := by
  go_enter Try.func11, Try.ntmps11
  go_wp2_with (go_at_call 23; refine (valueEnd_end a n c _).mono ?_; rintro e w' ⟨rfl, rfl⟩)
  go_ret
  exact ⟨rfl, rfl⟩

end Go.Proofs.Qxb6602447a
