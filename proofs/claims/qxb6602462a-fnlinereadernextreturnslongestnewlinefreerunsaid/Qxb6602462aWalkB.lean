/-
  THE WALKS of seat b6602462a, second part: the law FnLineReaderNextReturnsLongestNewlineFreeRun, way by way.
-/
import Derived.Test.Qxb6602462aWalkA
import Derived.Deep.OwnRows
import Derived.Laws.CopyOwn
namespace Go.Proofs.Qxb6602462a
open Go.RowKit

theorem Try.info5 : (Try.prog.info? 5).map (fun i => (i.zero, i.size, i.bytes)) = some (some (.int .u8 0), 1, 1) := by kernel_rfl
theorem Try.size5 : (Try.prog.info? 5).map (·.size) = some 1 := by kernel_rfl
theorem eq_nil (w : World) (a : Option Addr) (n c n' c' : Nat) : (binOp .eql 24 (.slice a n c) (.slice none n' c')).run Try.prog w = .ok (.bool a.isNone) w := Lib.run_eql_slice_nil w _ _ a n c n' c' Try.underlying24
theorem ne_nil (w : World) (a : Option Addr) (n c n' c' : Nat) : (binOp .neq 24 (.slice a n c) (.slice none n' c')).run Try.prog w = .ok (.bool (!a.isNone)) w := run_neq_slice_nil_any w _ _ a n c n' c' Try.underlying24

theorem made_at (w : World) (n : Nat) : (w.alloc (.cells (madeCells #[.int .u8 0] n) 5)).heap[w.heap.size]? = some (.cells (madeCells #[.int .u8 0] n).toList.toArray 5 (0, 0)) := by
  rw [Array.toArray_toList]; exact heap_alloc_new w _
theorem src_cells {w : World} {a : Addr} {n : Nat} {xs : List Int} (hl : xs.length = n) (hc : ∀ j, j < n → w.cell? (a.add j) = some (.int .u8 (el xs j))) :
    ∀ j v, (xs.map (Value.int .u8))[j]? = some v → ∀ o, (w.alloc o).cell? (a.add j) = some v := by
  intro j v hv o
  obtain ⟨hj, hu⟩ := List.getElem?_eq_some_iff.1 hv
  rw [List.length_map] at hj
  have h1 := hc j (by omega)
  rw [World.cell?_alloc_lt _ _ _ (World.block_lt_of_cell? _ _ h1), h1, ← hu, List.getElem_map]
  unfold el
  rw [List.getD_eq_getElem?_getD, List.getElem?_eq_getElem hj, Option.getD_some]

set_option maxHeartbeats 400000 in
/-- A nil text: every place is past the end. -/
theorem law_nil (p : Int) (w : World) (hp : 0 ≤ p) :
    Calls Try.prog 6 #[.slice none 0 0, .int .i64 p] w fun e w' => e = .returned (.bool true) ∧ Below w.heap.size w w' := by
  have q1 := eq_nil
  have q2 := ne_nil
  go_enter Try.func6, Try.ntmps6
  go_wp2_with fail
  refine (zb_yes _ _ _ _ _ (by omega)).mono ?_
  rintro e w' ⟨rfl, hw⟩
  rw [hw]
  clear hw
  go_wp2_with fail
  refine (zz_past none 0 0 p w (by omega)).mono ?_
  rintro e w1 ⟨rfl, hb⟩
  have HB : Hid (Below w.heap.size w w1) := hb
  clear hb
  go_wp2
  go_ret
  exact ⟨rfl, HB.out⟩

set_option maxHeartbeats 400000 in
/-- A text that is not nil, a place at or past its end. -/
theorem law_past (a : Addr) (n c : Nat) (p : Int) (xs : List Int) (w : World) (hn : n ≤ 1048576) (hp : (n : Int) ≤ p) (hl : xs.length = n) (hc : ∀ j, j < n → w.cell? (a.add j) = some (.int .u8 (el xs j))) :
    Calls Try.prog 6 #[.slice (some a) n c, .int .i64 p] w fun e w' => e = .returned (.bool true) ∧ Below w.heap.size w w' := by
  have q1 := eq_nil
  have q2 := ne_nil
  have hmk := run_make_row' (P := Try.prog) 24 5 (.int .u8 0) 1 Try.underlying24 Try.info5 rfl .i64 .i64 n (by omega) (by omega)
  obtain ⟨CS, hCS⟩ : ∃ CS, CS = xs.map (Value.int .u8) := ⟨_, rfl⟩
  have HC : Hid (CS.length = n) := by rw [hCS, List.length_map]; exact hl
  have HS : Hid (∀ j v, CS[j]? = some v → ∀ o, (w.alloc o).cell? (a.add j) = some v) := by rw [hCS]; exact src_cells hl hc
  have H1 : Hid (∀ v ∈ CS, v.oneCell' = true) := by rw [hCS]; exact ints_oneCell _ _
  have HM : Hid (CS.length = Nat.min n n) := by rw [HC.out]; exact (Nat.min_self n).symm
  have HF : Hid (0 + CS.length ≤ (madeCells #[Value.int .u8 0] n).toList.length) := by rw [HC.out, Array.length_toList, size_madeCells]; unfold Hid; omega
  have HX : Hid (CS = xs.map (Value.int .u8)) := hCS
  clear hCS hc
  go_enter Try.func6, Try.ntmps6
  go_wp2_with fail
  refine (zb_yes _ _ _ _ _ hn).mono ?_
  rintro e w' ⟨rfl, hw⟩
  rw [hw]
  clear hw
  go_wp2_with (refine wpList_copy_splice rfl (.tmp 27) (.tmp 28) 24 24 rfl 5 Try.underlying24 Try.size5 _ _ n n n c rfl rfl w.heap.size 0 (madeCells #[.int .u8 0] n).toList 5 (made_at w n) CS HM.out (fun _ => ⟨rfl, a, rfl, fun j v h => HS.out j v h _⟩) HF.out H1.out w.heap.size w ((Below.refl _ _).alloc (Nat.le_refl _) _) (Nat.le_refl _) ?_)
  intro w1 HG hb
  have HB : Hid (Below w.heap.size w w1) := hb
  clear hb
  go_wp2_with fail
  refine (zz_past (some ⟨w.heap.size, 0, none⟩) n n p w1 hp).mono ?_
  rintro e w2 ⟨rfl, hb⟩
  have HB2 : Hid (Below w.heap.size w w2) := HB.out.trans (hb.mono HB.out.size)
  clear hb
  go_wp2
  go_ret
  exact ⟨rfl, HB2.out⟩

theorem dat_spliced {w : World} {B n : Nat} {xs : List Int} (h : w.heap[B]? = some (.cells (splice (madeCells #[Value.int .u8 0] n).toList 0 (xs.map (Value.int .u8))).toArray 5 (0, 0))) (hl : xs.length = n) : Dat w B 0 n xs := by
  refine ⟨hl, fun j hj => ?_⟩
  have e : splice (madeCells #[Value.int .u8 0] n).toList 0 (xs.map (Value.int .u8)) = xs.map (Value.int .u8) := by
    unfold splice
    rw [List.take_zero, List.nil_append, List.drop_eq_nil_of_le (by rw [Array.length_toList, size_madeCells, List.length_map]; omega), List.append_nil]
  rw [e] at h
  simp only [World.cell?, h, Nat.zero_add]
  unfold el
  simp [hl, hj]

set_option maxHeartbeats 1000000 in
/-- A text that is not nil, a place inside it. -/
theorem law_in (a : Addr) (n c p : Nat) (xs : List Int) (w : World) (hn : n ≤ 1048576) (hp : p < n) (hby : Byt xs) (hl : xs.length = n) (hc : ∀ j, j < n → w.cell? (a.add j) = some (.int .u8 (el xs j))) :
    Calls Try.prog 6 #[.slice (some a) n c, .int .i64 p] w fun e w' => e = .returned (.bool true) ∧ Below w.heap.size w w' := by
  have q1 := eq_nil
  have q2 := ne_nil
  have hmk := run_make_row' (P := Try.prog) 24 5 (.int .u8 0) 1 Try.underlying24 Try.info5 rfl .i64 .i64 n (by omega) (by omega)
  obtain ⟨CS, hCS⟩ : ∃ CS, CS = xs.map (Value.int .u8) := ⟨_, rfl⟩
  have HC : Hid (CS.length = n) := by rw [hCS, List.length_map]; exact hl
  have HS : Hid (∀ j v, CS[j]? = some v → ∀ o, (w.alloc o).cell? (a.add j) = some v) := by rw [hCS]; exact src_cells hl hc
  have H1 : Hid (∀ v ∈ CS, v.oneCell' = true) := by rw [hCS]; exact ints_oneCell _ _
  have HM : Hid (CS.length = Nat.min n n) := by rw [HC.out]; exact (Nat.min_self n).symm
  have HF : Hid (0 + CS.length ≤ (madeCells #[Value.int .u8 0] n).toList.length) := by rw [HC.out, Array.length_toList, size_madeCells]; unfold Hid; omega
  have HX : Hid (CS = xs.map (Value.int .u8)) := hCS
  clear hCS hc
  go_enter Try.func6, Try.ntmps6
  go_wp2_with fail
  refine (zb_yes _ _ _ _ _ hn).mono ?_
  rintro e w' ⟨rfl, hw⟩
  rw [hw]
  clear hw
  go_wp2_with (refine wpList_copy_splice rfl (.tmp 27) (.tmp 28) 24 24 rfl 5 Try.underlying24 Try.size5 _ _ n n n c rfl rfl w.heap.size 0 (madeCells #[.int .u8 0] n).toList 5 (made_at w n) CS HM.out (fun _ => ⟨rfl, a, rfl, fun j v h => HS.out j v h _⟩) HF.out H1.out w.heap.size w ((Below.refl _ _).alloc (Nat.le_refl _) _) (Nat.le_refl _) ?_)
  intro w1 HG hb
  have HB : Hid (Below w.heap.size w w1) := hb
  have HD : Hid (Dat w1 w.heap.size 0 n xs) := dat_spliced (by rw [← HX.out]; exact HG.out) hl
  clear hb HG
  clear hmk
  go_wp2_with fail
  refine (zz_in w.heap.size 0 n n p xs w1 hn hp (Nat.le_refl _) HD.out hby).mono ?_
  rintro e w2 ⟨m, q, hline, rfl, hb⟩
  have HB2 : Hid (Below w.heap.size w w2) := HB.out.trans (hb.mono HB.out.size)
  have HD2 : Hid (Dat w2 w.heap.size 0 n xs) := dat_below HD.out hb
  obtain ⟨hl1, hno, hend⟩ := hline
  rw [hl] at hl1 hend
  have HN : Hid (∀ j, j < m → ¬ el xs (p + j) = 10) := hno
  have HE : Hid ((p + m = n ∧ q = p + m) ∨ (p + m < n ∧ el xs (p + m) = 10 ∧ q = p + m + 1)) := hend
  clear hb hno hend hby
  go_wp2
  go_loopw [11] (fun i wr => ∃ k t : Nat, k ≤ m ∧ i = .int .i64 k ∧ wr = w2.drewN t) (fun i _ => m - (intOf i).toNat)
  case atStart => exact ⟨0, 0, by omega, rfl, rfl⟩
  case round =>
    obtain ⟨k, t, hk, rfl, rfl⟩ := hrel
    by_cases h1 : k < m
    · have hcell : w2.cell? ⟨w.heap.size, p + k, none⟩ = some (.int .u8 (el xs (p + k))) := by have := HD2.out.2 (p + k) (by omega); rw [Nat.zero_add] at this; exact this
      have t1 : (el xs (p + k) == 10) = false := by have := HN.out k h1; simpa using this
      have h2 : (k : Int) < (m : Int) := by omega
      have h3 : (p : Int) + (k : Int) < (n : Int) := by omega
      go_wp2
      go_quiet (fail)
      go_wp2
      go_roundw
      case rel => exact ⟨k + 1, t + nq, by omega, by go_num, rfl⟩
      case measure => simp [intOf]; omega
    · rcases HE.out with ⟨he, rfl⟩ | ⟨he, hc10, rfl⟩
      · have t2 : ((p : Int) + (m : Int) == (n : Int)) = true := by simp; omega
        clear he
        go_wp2
        go_ret
        exact ⟨rfl, below_drewN HB2.out⟩
      · have t2 : ((p : Int) + (m : Int) == (n : Int)) = false := by simp; omega
        have hcell : w2.cell? ⟨w.heap.size, p + m, none⟩ = some (.int .u8 10) := by have := HD2.out.2 (p + m) (by omega); rw [Nat.zero_add, hc10] at this; exact this
        clear hc10
        go_wp2
        go_ret
        exact ⟨rfl, below_drewN HB2.out⟩

end Go.Proofs.Qxb6602462a
