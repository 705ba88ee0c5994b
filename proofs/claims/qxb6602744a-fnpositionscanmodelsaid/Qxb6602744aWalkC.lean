/-
  THE WALKS of seat b6602744a, third part: ZZposition; a nil text; the law FnPositionScanModel, way by way.
-/
import Derived.Test.Qxb6602744aWalkB
import Derived.Deep.OwnRows
import Derived.Laws.CopyOwn
namespace Go.Proofs.Qxb6602744a
open Go.RowKit

theorem zz_any (b off n c k : Nat) (o : Int) (xs : List Int) (w : World) (hn : n ≤ 1048576) (hnc : n ≤ c) (hd : Dat w b off n xs) (hb : Byt xs) (hk : max 0 (min o (n : Int)) = (k : Int)) (hkn : k ≤ n) :
    Calls Try.prog 10 #[.slice (some ⟨b, off, none⟩) n c, .int .i64 o] w fun e w' => e = .returned (.tuple #[.int .i64 (1 + (cnt xs k : Int)), .int .i64 ((k : Int) - lst xs k)]) ∧ Below w.heap.size w w' := by
  have Z : Hid (Calls Try.prog 14 #[.slice (some ⟨b, off, none⟩) n c, .int .i64 o] w fun e w' => e = .returned (.tuple #[.int .i64 (1 + (cnt xs k : Int)), .int .i64 ((k : Int) - lst xs k)]) ∧ Below w.heap.size w w') := position_any b off n c k o xs w hn hnc hd hb hk hkn
  clear hd hb hk
  go_enter Try.func10, Try.ntmps10
  go_wp2_with fail
  refine Z.out.mono ?_
  rintro e w1 ⟨rfl, hb1⟩
  have HB : Hid (Below w.heap.size w w1) := hb1
  clear hb1
  go_wp2
  go_ret2
  exact ⟨rfl, HB.out⟩

/-! ### A nil text -/
theorem count_nil (b2 c2 : Nat) (w : World) (h2 : w.cell? ⟨b2, 0, none⟩ = some (.int .u8 10)) :
    Calls Try.prog 15 #[.slice none 0 0, .slice (some ⟨b2, 0, none⟩) 1 c2] w fun e w' => e = .returned (.int .i64 0) ∧ w' = w := by
  go_enter Try.func15, Try.ntmps15
  go_wp2
  rw [run_callFunc_extern Try.func18 (by kernel_rfl) (by kernel_rfl) (by kernel_rfl) (e := Extern.BytealgCount.count) (by kernel_rfl), Lib.run_countNil w 0 0 10]
  simp only [Result.andThen]
  rw [Oper.upon_value]
  go_wp2
  go_ret
  exact ⟨rfl, rfl⟩
theorem last_nil (w : World) :
    Calls Try.prog 16 #[.slice none 0 0, .int .u8 10] w fun e w' => e = .returned (.int .i64 (-1)) ∧ w' = w := by
  go_enter Try.func16, Try.ntmps16
  go_wp2
  go_loop [5] (fun i => i = .int .i64 (-1)) (fun _ => 0)
  case atStart => rfl
  case round =>
    obtain rfl := hrel
    go_wp2
    go_ret
    exact ⟨rfl, rfl⟩
theorem position_nil (o : Int) (w : World) :
    Calls Try.prog 14 #[.slice none 0 0, .int .i64 o] w fun e w' => e = .returned (.tuple #[.int .i64 1, .int .i64 1]) ∧ Below w.heap.size w w' := by
  have kc := fun (w : World) (C : Array Value) (n c : Nat) => Lib.run_convert_bytes_const (P := Try.prog) w 24 5 C n c Try.underlying24 Try.underlying5
  have hk : max 0 (min o 0) = 0 := by omega
  go_enter Try.func14, Try.ntmps14
  go_wp2_with fail
  refine (count_nil w.heap.size 1 _ (by rw [World.cell?_alloc_mark]; rfl)).mono ?_
  rintro e w' ⟨rfl, hw⟩
  rw [hw]
  clear hw
  go_wp2_with fail
  refine (last_nil _).mono ?_
  rintro e w' ⟨rfl, hw⟩
  rw [hw]
  clear hw
  go_wp2
  go_ret2
  exact ⟨rfl, (Below.refl _ _).alloc (Nat.le_refl _) _⟩
theorem zz_nil (o : Int) (w : World) :
    Calls Try.prog 10 #[.slice none 0 0, .int .i64 o] w fun e w' => e = .returned (.tuple #[.int .i64 1, .int .i64 1]) ∧ Below w.heap.size w w' := by
  go_enter Try.func10, Try.ntmps10
  go_wp2_with fail
  refine (position_nil o w).mono ?_
  rintro e w1 ⟨rfl, hb1⟩
  have HB : Hid (Below w.heap.size w w1) := hb1
  clear hb1
  go_wp2
  go_ret2
  exact ⟨rfl, HB.out⟩

theorem zb_yes (a : Option Addr) (n c : Nat) (i : Int) (w : World) (hn : n ≤ 1048576) : Calls Try.prog 9 #[.slice a n c, .int .i64 i] w fun e w' => e = .returned (.bool true) ∧ w' = w := by
  go_enter Try.func9, Try.ntmps9
  go_wp2
  go_ret
  exact ⟨rfl, rfl⟩
theorem zb_no (a : Option Addr) (n c : Nat) (i : Int) (w : World) (hn : 1048576 < n) : Calls Try.prog 9 #[.slice a n c, .int .i64 i] w fun e w' => e = .returned (.bool false) ∧ w' = w := by
  go_enter Try.func9, Try.ntmps9
  go_wp2
  go_ret
  exact ⟨rfl, rfl⟩

theorem Try.info5 : (Try.prog.info? 5).map (fun i => (i.zero, i.size, i.bytes)) = some (some (.int .u8 0), 1, 1) := by kernel_rfl
theorem Try.size5 : (Try.prog.info? 5).map (·.size) = some 1 := by kernel_rfl
theorem ne_nil (w : World) (a : Option Addr) (n c n' c' : Nat) : (binOp .neq 24 (.slice a n c) (.slice none n' c')).run Try.prog w = .ok (.bool (!a.isNone)) w := run_neq_slice_nil_any w _ _ a n c n' c' Try.underlying24
theorem made_at (w : World) (n : Nat) : (w.alloc (.cells (madeCells #[.int .u8 0] n) 5)).heap[w.heap.size]? = some (.cells (madeCells #[.int .u8 0] n).toList.toArray 5 (0, 0)) := by
  rw [Array.toArray_toList]; exact heap_alloc_new w _
theorem src_cells {w : World} {a : Addr} {n : Nat} {xs : List Int} (hl : xs.length = n) (hc : ∀ j, j < n → w.cell? (a.add j) = some (.int .u8 (el xs j))) :
    ∀ j v, (xs.map (Value.int .u8))[j]? = some v → ∀ o, (w.alloc o).cell? (a.add j) = some v := by
  intro j v hv o
  obtain ⟨hj, hu⟩ := List.getElem?_eq_some_iff.1 hv
  rw [List.length_map] at hj
  have h1 := hc j (by omega)
  rw [World.cell?_alloc_lt _ _ _ (World.block_lt_of_cell? _ _ h1), h1, ← hu, List.getElem_map]
  unfold el
  rw [List.getD_eq_getElem?_getD, List.getElem?_eq_getElem hj, Option.getD_some]

theorem dat_spliced {w : World} {B n : Nat} {xs : List Int} (h : w.heap[B]? = some (.cells (splice (madeCells #[Value.int .u8 0] n).toList 0 (xs.map (Value.int .u8))).toArray 5 (0, 0))) (hl : xs.length = n) : Dat w B 0 n xs := by
  refine ⟨hl, fun j hj => ?_⟩
  have e : splice (madeCells #[Value.int .u8 0] n).toList 0 (xs.map (Value.int .u8)) = xs.map (Value.int .u8) := by
    unfold splice
    rw [List.take_zero, List.nil_append, List.drop_eq_nil_of_le (by rw [Array.length_toList, size_madeCells, List.length_map]; omega), List.append_nil]
  rw [e] at h
  simp only [World.cell?, h, Nat.zero_add]
  unfold el
  simp [hl, hj]


set_option maxHeartbeats 400000 in
/-- A nil text. -/
theorem law_nil (o : Int) (w : World) :
    Calls Try.prog 4 #[.slice none 0 0, .int .i64 o] w fun e w' => e = .returned (.bool true) ∧ Below w.heap.size w w' := by
  have q2 := ne_nil
  by_cases ho : 0 < o
  all_goals
    have ho2 : 0 < o → (0 : Int) ≤ o := fun h => by omega
    go_enter Try.func4, Try.ntmps4
    go_wp2_with fail
    refine (zb_yes _ _ _ _ _ (by omega)).mono ?_
    rintro e w' ⟨rfl, hw⟩
    rw [hw]
    clear hw
    go_wp2_with fail
    go_loop [7, 8, 9] (fun l c i => l = .int .i64 1 ∧ c = .int .i64 1 ∧ i = .int .i64 0) (fun _ _ _ => 0)
    case atStart => exact ⟨rfl, rfl, rfl⟩
    case round =>
      obtain ⟨rfl, rfl, rfl⟩ := hrel
      go_wp2_with fail
      refine (zz_nil o w).mono ?_
      rintro e w1 ⟨rfl, hb1⟩
      have HB : Hid (Below w.heap.size w w1) := hb1
      clear hb1
      go_wp2
      go_ret
      exact ⟨rfl, HB.out⟩

end Go.Proofs.Qxb6602744a
