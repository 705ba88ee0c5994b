/-
  THE WALKS of seat b6602744a, fourth part: the law FnPositionScanModel at a text that is not nil.
-/
import Derived.Test.Qxb6602744aWalkC
namespace Go.Proofs.Qxb6602744a
open Go.RowKit

/-- What the forward scan holds at place i. -/
theorem val_int {a b : Int} (h : a = b) : Value.int .i64 a = .int .i64 b := by rw [h]

set_option maxHeartbeats 1600000 in
theorem law_some (a : Addr) (n c : Nat) (o : Int) (xs : List Int) (w : World) (hn : n ≤ 1048576) (hby : Byt xs) (hl : xs.length = n) (hc : ∀ j, j < n → w.cell? (a.add j) = some (.int .u8 (el xs j))) :
    Calls Try.prog 4 #[.slice (some a) n c, .int .i64 o] w fun e w' => e = .returned (.bool true) ∧ Below w.heap.size w w' := by
  have q2 := ne_nil
  have hmk := run_make_row' (P := Try.prog) 24 5 (.int .u8 0) 1 Try.underlying24 Try.info5 rfl .i64 .i64 n (by omega) (by omega)
  obtain ⟨CS, hCS⟩ : ∃ CS, CS = xs.map (Value.int .u8) := ⟨_, rfl⟩
  have HC : Hid (CS.length = n) := by rw [hCS, List.length_map]; exact hl
  have HS : Hid (∀ j v, CS[j]? = some v → ∀ o, (w.alloc o).cell? (a.add j) = some v) := by rw [hCS]; exact src_cells hl hc
  have H1 : Hid (∀ v ∈ CS, v.oneCell' = true) := by rw [hCS]; exact ints_oneCell _ _
  have HM : Hid (CS.length = Nat.min n n) := by rw [HC.out]; exact (Nat.min_self n).symm
  have HF : Hid (0 + CS.length ≤ (madeCells #[Value.int .u8 0] n).toList.length) := by rw [HC.out, Array.length_toList, size_madeCells]; unfold Hid; omega
  have HX : Hid (CS = xs.map (Value.int .u8)) := hCS
  have HBY : Hid (Byt xs) := hby
  clear hCS hc hby
  obtain ⟨k, hkn, hk, hcase⟩ : ∃ k : Nat, k ≤ n ∧ max 0 (min o (n : Int)) = (k : Int) ∧ ((o ≤ 0 ∧ k = 0) ∨ (0 < o ∧ (n : Int) ≤ o ∧ k = n) ∨ (0 < o ∧ o < n ∧ o = k)) :=
    ⟨(max 0 (min o (n : Int))).toNat, by omega, by omega, by omega⟩
  have HK : Hid (max 0 (min o (n : Int)) = (k : Int)) := hk
  clear hk
  have Z : Hid (∀ w', Dat w' w.heap.size 0 n xs → Calls Try.prog 10 #[.slice (some ⟨w.heap.size, 0, none⟩) n n, .int .i64 o] w' fun e w'' => e = .returned (.tuple #[.int .i64 (1 + (cnt xs k : Int)), .int .i64 ((k : Int) - lst xs k)]) ∧ Below w'.heap.size w' w'') :=
    fun w' h => zz_any w.heap.size 0 n n k o xs w' hn (Nat.le_refl _) h HBY.out HK.out hkn
  rcases hcase with ⟨h1, rfl⟩ | ⟨h1, h2, rfl⟩ | ⟨h1, h2, rfl⟩
  · go_enter Try.func4, Try.ntmps4
    go_wp2_with fail
    refine (zb_yes _ _ _ _ _ hn).mono ?_
    rintro e w' ⟨rfl, hw⟩
    rw [hw]
    clear hw
    go_wp2_with (refine wpList_copy_splice rfl (.tmp 27) (.tmp 28) 24 24 rfl 5 Try.underlying24 Try.size5 _ _ n n n c rfl rfl w.heap.size 0 (madeCells #[.int .u8 0] n).toList 5 (made_at w n) CS HM.out (fun _ => ⟨rfl, a, rfl, fun j v h => HS.out j v h _⟩) HF.out H1.out w.heap.size w ((Below.refl _ _).alloc (Nat.le_refl _) _) (Nat.le_refl _) ?_)
    intro w1 HG hb
    have HB : Hid (Below w.heap.size w w1) := hb
    have HD : Hid (Dat w1 w.heap.size 0 n xs) := dat_spliced (by rw [← HX.out]; exact HG.out) hl
    clear hb HG hmk
    go_wp2_with fail
    go_loopw [7, 8, 9] (fun l cc i wr => ∃ j : Nat, j ≤ 0 ∧ l = .int .i64 (1 + (cnt xs j : Int)) ∧ cc = .int .i64 ((j : Int) - lst xs j) ∧ i = .int .i64 j ∧ wr = w1) (fun _ _ i _ => 0 - (intOf i).toNat)
    case atStart => exact ⟨0, Nat.zero_le _, rfl, rfl, rfl, rfl⟩
    case round =>
      obtain ⟨j, hj, rfl, rfl, rfl, rfl⟩ := hrel
      obtain rfl : j = 0 := by omega
      go_wp2_with fail
      refine (Z.out _ HD.out).mono ?_
      rintro e w2 ⟨rfl, hb2⟩
      have HB2 : Hid (Below w.heap.size w w2) := HB.out.trans (hb2.mono HB.out.size)
      clear hb2
      go_wp2
      go_ret
      exact ⟨by first | rfl | simp, HB2.out⟩
  · go_enter Try.func4, Try.ntmps4
    go_wp2_with fail
    refine (zb_yes _ _ _ _ _ hn).mono ?_
    rintro e w' ⟨rfl, hw⟩
    rw [hw]
    clear hw
    go_wp2_with (refine wpList_copy_splice rfl (.tmp 27) (.tmp 28) 24 24 rfl 5 Try.underlying24 Try.size5 _ _ k k k c rfl rfl w.heap.size 0 (madeCells #[.int .u8 0] k).toList 5 (made_at w k) CS HM.out (fun _ => ⟨rfl, a, rfl, fun j v h => HS.out j v h _⟩) HF.out H1.out w.heap.size w ((Below.refl _ _).alloc (Nat.le_refl _) _) (Nat.le_refl _) ?_)
    intro w1 HG hb
    have HB : Hid (Below w.heap.size w w1) := hb
    have HD : Hid (Dat w1 w.heap.size 0 k xs) := dat_spliced (by rw [← HX.out]; exact HG.out) hl
    clear hb HG hmk
    go_wp2_with fail
    go_loopw [7, 8, 9] (fun l cc i wr => ∃ j : Nat, j ≤ k ∧ l = .int .i64 (1 + (cnt xs j : Int)) ∧ cc = .int .i64 ((j : Int) - lst xs j) ∧ i = .int .i64 j ∧ wr = w1) (fun _ _ i _ => k - (intOf i).toNat)
    case atStart => exact ⟨0, Nat.zero_le _, rfl, rfl, rfl, rfl⟩
    case round =>
      obtain ⟨j, hj, rfl, rfl, rfl, rfl⟩ := hrel
      by_cases hlt : j < k
      · have b1 := cnt_le xs j
        have b2 := (lst_range xs j).1
        have b3 := (lst_range xs j).2
        have HN1 : Hid (cnt xs (j + 1) = if el xs j = 10 then cnt xs j + 1 else cnt xs j) := cnt_succ xs j
        have HL1 : Hid (lst xs (j + 1) = if el xs j = 10 then (j : Int) else lst xs j) := lst_succ xs j
        have hcell : wr.cell? ⟨w.heap.size, j, none⟩ = some (.int .u8 (el xs j)) := by have := HD.out.2 j (by omega); rw [Nat.zero_add] at this; exact this
        have hltN : j < k := by omega
        cases c1 : (el xs j == 10)
        · go_wp2
          go_roundw
          case rel => exact ⟨j + 1, by omega, val_int (by rw [HN1.out, if_neg (bf c1)]), val_int (by rw [HL1.out, if_neg (bf c1)]; omega), by go_num, by trivial⟩
          case measure => simp [intOf]; omega
        · go_wp2
          go_roundw
          case rel => exact ⟨j + 1, by omega, val_int (by rw [HN1.out, if_pos (bt c1)]; omega), val_int (by rw [HL1.out, if_pos (bt c1)]; omega), by go_num, by trivial⟩
          case measure => simp [intOf]; omega
      obtain rfl : j = k := by omega
      go_wp2_with fail
      refine (Z.out _ HD.out).mono ?_
      rintro e w2 ⟨rfl, hb2⟩
      have HB2 : Hid (Below w.heap.size w w2) := HB.out.trans (hb2.mono HB.out.size)
      clear hb2
      go_wp2
      go_ret
      exact ⟨by first | rfl | simp, HB2.out⟩
  · go_enter Try.func4, Try.ntmps4
    go_wp2_with fail
    refine (zb_yes _ _ _ _ _ hn).mono ?_
    rintro e w' ⟨rfl, hw⟩
    rw [hw]
    clear hw
    go_wp2_with (refine wpList_copy_splice rfl (.tmp 27) (.tmp 28) 24 24 rfl 5 Try.underlying24 Try.size5 _ _ n n n c rfl rfl w.heap.size 0 (madeCells #[.int .u8 0] n).toList 5 (made_at w n) CS HM.out (fun _ => ⟨rfl, a, rfl, fun j v h => HS.out j v h _⟩) HF.out H1.out w.heap.size w ((Below.refl _ _).alloc (Nat.le_refl _) _) (Nat.le_refl _) ?_)
    intro w1 HG hb
    have HB : Hid (Below w.heap.size w w1) := hb
    have HD : Hid (Dat w1 w.heap.size 0 n xs) := dat_spliced (by rw [← HX.out]; exact HG.out) hl
    clear hb HG hmk
    go_wp2_with fail
    go_loopw [7, 8, 9] (fun l cc i wr => ∃ j : Nat, j ≤ k ∧ l = .int .i64 (1 + (cnt xs j : Int)) ∧ cc = .int .i64 ((j : Int) - lst xs j) ∧ i = .int .i64 j ∧ wr = w1) (fun _ _ i _ => k - (intOf i).toNat)
    case atStart => exact ⟨0, Nat.zero_le _, rfl, rfl, rfl, rfl⟩
    case round =>
      obtain ⟨j, hj, rfl, rfl, rfl, rfl⟩ := hrel
      by_cases hlt : j < k
      · have b1 := cnt_le xs j
        have b2 := (lst_range xs j).1
        have b3 := (lst_range xs j).2
        have HN1 : Hid (cnt xs (j + 1) = if el xs j = 10 then cnt xs j + 1 else cnt xs j) := cnt_succ xs j
        have HL1 : Hid (lst xs (j + 1) = if el xs j = 10 then (j : Int) else lst xs j) := lst_succ xs j
        have hcell : wr.cell? ⟨w.heap.size, j, none⟩ = some (.int .u8 (el xs j)) := by have := HD.out.2 j (by omega); rw [Nat.zero_add] at this; exact this
        have hltN : j < n := by omega
        cases c1 : (el xs j == 10)
        · go_wp2
          go_roundw
          case rel => exact ⟨j + 1, by omega, val_int (by rw [HN1.out, if_neg (bf c1)]), val_int (by rw [HL1.out, if_neg (bf c1)]; omega), by go_num, by trivial⟩
          case measure => simp [intOf]; omega
        · go_wp2
          go_roundw
          case rel => exact ⟨j + 1, by omega, val_int (by rw [HN1.out, if_pos (bt c1)]; omega), val_int (by rw [HL1.out, if_pos (bt c1)]; omega), by go_num, by trivial⟩
          case measure => simp [intOf]; omega
      obtain rfl : j = k := by omega
      go_wp2_with fail
      refine (Z.out _ HD.out).mono ?_
      rintro e w2 ⟨rfl, hb2⟩
      have HB2 : Hid (Below w.heap.size w w2) := HB.out.trans (hb2.mono HB.out.size)
      clear hb2
      go_wp2
      go_ret
      exact ⟨by first | rfl | simp, HB2.out⟩

end Go.Proofs.Qxb6602744a
