/-
  THE WALKS of seat b6602447a, fourth part: jfCloneBytes.
-/
import Derived.Test.Qxb6602447aWalkC
import Derived.Deep.OwnRows
namespace Go.Proofs.Qxb6602447a
open Go.RowKit Pl

theorem Try.info5 : (Try.prog.info? 5).map (fun i => (i.zero, i.size, i.bytes)) = some (some (.int .u8 0), 1, 1) := by kernel_rfl
theorem eq_nil (w : World) (a : Option Addr) (n c n' c' : Nat) : (binOp .eql 22 (.slice a n c) (.slice none n' c')).run Try.prog w = .ok (.bool a.isNone) w := Lib.run_eql_slice_nil w _ _ a n c n' c' Try.underlying22

theorem clone_nil (w : World) : Calls Try.prog 10 #[.slice none 0 0] w fun e w' => e = .returned (.slice none 0 0) ∧ w' = w := by
  have hq := eq_nil
  go_enter Try.func10, Try.ntmps10
  go_wp2
  go_ret
  exact ⟨rfl, rfl⟩

theorem clone_empty (a : Addr) (c : Nat) (w : World) :
    Calls Try.prog 10 #[.slice (some a) 0 c] w fun e w' => e = .returned (.slice (some ⟨w.heap.size, 0, none⟩) 0 0) ∧ Below w.heap.size w w' := by
  have hq := eq_nil
  have hmk : ∀ w, (Instr.makeSlice 22 (.int .i64 0) (.int .i64 0)).run Try.prog w = .ok (.slice (some ⟨w.heap.size, 0, none⟩) 0 0) (w.alloc (.cells (madeCells #[.int .u8 0] 0) 5)) := fun w => run_make_row' (P := Try.prog) 22 5 (.int .u8 0) 1 Try.underlying22 Try.info5 rfl .i64 .i64 0 (by omega) (by omega) w
  go_enter Try.func10, Try.ntmps10
  go_wp2
  go_loopw [4] (fun i wr => i = .int .i64 0 ∧ Below w.heap.size w wr) (fun _ _ => 0)
  case atStart => exact ⟨rfl, (Below.refl _ _).alloc (Nat.le_refl _) _⟩
  case round =>
    obtain ⟨rfl, hbel⟩ := hrel
    go_wp2
    go_ret
    exact ⟨rfl, hbel⟩

set_option maxHeartbeats 400000 in
theorem clone_some (b off n c : Nat) (xs : List Int) (w : World) (hn : n ≤ 1048576) (h0 : 0 < n) (hd : Dat w b off n xs) :
    Calls Try.prog 10 #[.slice (some ⟨b, off, none⟩) n c] w fun e w' => e = .returned (.slice (some ⟨w.heap.size, 0, none⟩) n n) ∧ w'.rowIs w.heap.size 5 n (fun j => .int .u8 (el xs j)) ∧ Below w.heap.size w w' := by
  have hq := eq_nil
  have hmk := run_make_row' (P := Try.prog) 22 5 (.int .u8 0) 1 Try.underlying22 Try.info5 rfl .i64 .i64 n (by omega) (by omega)
  have HC : Hid (∀ j, j < n → w.cell? ⟨b, off + j, none⟩ = some (.int .u8 (el xs j))) := hd.2
  have HB : Hid (b < w.heap.size) := (block_lt_of_cell (hd.2 0 h0) : _)
  clear hd
  go_enter Try.func10, Try.ntmps10
  go_wp2
  clear hmk
  go_loopw [4] (fun i wr => ∃ k : Nat, k ≤ n ∧ i = .int .i64 k ∧ wr.rowIs w.heap.size 5 n (fun j => if j < k then .int .u8 (el xs j) else .int .u8 0) ∧ Below w.heap.size w wr) (fun i _ => n - (intOf i).toNat)
  case atStart => exact ⟨0, by omega, rfl, (World.rowIs_made w (.int .u8 0) n 5).congr (fun i _ => by simp), (Below.refl _ _).alloc (Nat.le_refl _) _⟩
  case round =>
    obtain ⟨k, hk, rfl, hrow, hbel⟩ := hrel
    by_cases h1 : k < n
    · have hcell : wr.cell? ⟨b, off + k, none⟩ = some (.int .u8 (el xs k)) := (hbel.cell (p := ⟨b, off + k, none⟩) HB.out).trans (HC.out k h1)
      have hc2 := hrow.cell h1
      have hf2 := hrow.frozen k
      have HR : Hid (wr.rowIs w.heap.size 5 n (fun j => if j < k then .int .u8 (el xs j) else .int .u8 0)) := hrow
      have HBL : Hid (Below w.heap.size w wr) := hbel
      clear hrow hbel
      go_wp2
      go_roundw
      case rel =>
        refine ⟨k + 1, by omega, by go_num, (HR.out.set k (.int .u8 (el xs k))).congr (fun j _ => ?_), HBL.out.setCell (Nat.le_refl _) _⟩
        by_cases e : j = k
        · subst e; simp
        · by_cases e2 : j < k
          · have e3 : j < k + 1 := by omega
            simp [e, e2, e3]
          · have e3 : ¬ j < k + 1 := by omega
            simp [e, e2, e3]
      case measure => simp [intOf]; omega
    · go_wp2
      go_ret
      exact ⟨rfl, hrow.congr (fun j hj => by have e : j < k := by omega
                                             simp [e]), hbel⟩

/-- A row of the call's own, as the contracts ask for it. -/
theorem dat_of_row {w : World} {B n : Nat} {xs : List Int} (h : w.rowIs B 5 n (fun j => .int .u8 (el xs j))) (hl : xs.length = n) : Dat w B 0 n xs :=
  ⟨hl, fun j hj => by rw [Nat.zero_add]; exact h.cell hj⟩

end Go.Proofs.Qxb6602447a
