/-
  THE WALKS of seat b6602447a, fifth part: the bounds on the total length, and what the laws share.
-/
import Derived.Test.Qxb6602447aWalkD
import Derived.OpenShut
namespace Go.Proofs.Qxb6602447a
open Go.RowKit Pl

theorem zb13_yes (a : Option Addr) (n c : Nat) (i : Int) (w : World) (hn : n ≤ 1048576) : Calls Try.prog 13 #[.slice a n c, .int .i64 i] w fun e w' => e = .returned (.bool true) ∧ w' = w := by
  go_enter Try.func13, Try.ntmps13
  go_wp2
  go_ret
  exact ⟨rfl, rfl⟩
theorem zb13_no (a : Option Addr) (n c : Nat) (i : Int) (w : World) (hn : 1048576 < n) : Calls Try.prog 13 #[.slice a n c, .int .i64 i] w fun e w' => e = .returned (.bool false) ∧ w' = w := by
  go_enter Try.func13, Try.ntmps13
  go_wp2
  go_ret
  exact ⟨rfl, rfl⟩
theorem zb9_yes (a : Option Addr) (n c : Nat) (i : Int) (w : World) (hn : n ≤ 1048576) : Calls Try.prog 9 #[.slice a n c, .int .i64 i] w fun e w' => e = .returned (.bool true) ∧ w' = w := by
  go_enter Try.func9, Try.ntmps9
  go_wp2
  go_ret
  exact ⟨rfl, rfl⟩
theorem zb9_no (a : Option Addr) (n c : Nat) (i : Int) (w : World) (hn : 1048576 < n) : Calls Try.prog 9 #[.slice a n c, .int .i64 i] w fun e w' => e = .returned (.bool false) ∧ w' = w := by
  go_enter Try.func9, Try.ntmps9
  go_wp2
  go_ret
  exact ⟨rfl, rfl⟩

/-- At a text of no byte. -/
theorem zz_zero (a : Option Addr) (c : Nat) (w : World) : Calls Try.prog 11 #[.slice a 0 c, .int .i64 0] w fun e w' => e = .returned (.int .i64 (-1)) ∧ w' = w := zz_end a 0 c w

theorem below_drewN {B m : Nat} {w w' : World} (h : Below B w w') : Below B w (w'.drewN m) := ⟨h.os, h.tape, h.output, h.size, h.block⟩
theorem dat_drewN {w : World} {b off n m : Nat} {xs : List Int} (h : Dat w b off n xs) : Dat (w.drewN m) b off n xs := h
theorem byt_of (xs : List Int) (h : ∀ n ∈ xs, (Lit.int .u8 n).wf = true) : Byt xs := by
  intro j
  have := range_u8 h j
  unfold el
  rw [List.getD_eq_getElem?_getD]
  omega

/-- What the whole and the cut text answer. -/
theorem cut_law (xs : List Int) (i : Nat) (hi : i ≤ xs.length) :
    (at_ (xs.drop i) 0 0 0 = -1 ∧ at_ xs 0 0 i = -1) ∨ (0 ≤ at_ (xs.drop i) 0 0 0 ∧ at_ (xs.drop i) 0 0 0 ≤ xs.length ∧ at_ xs 0 0 i = at_ (xs.drop i) 0 0 0 + i) := by
  have h := vm_shift (xs.drop i) 0 0 0 i (by omega) (by omega)
  have r := at_range (xs.drop i) 0 0 0 (by omega)
  have e : at_ (xs.drop i) 0 0 0 = vm (xs.drop i) 0 0 0 := by unfold at_; simp
  have e2 : at_ xs 0 0 i = vm (xs.drop i) 0 0 (0 + (i : Int)) := by unfold at_; simp
  rw [e2, h, ← e]
  simp only [List.length_drop] at r
  by_cases hn : at_ (xs.drop i) 0 0 0 < 0
  · left; rw [if_pos hn]; omega
  · right; rw [if_neg hn]; omega

/-- What is left of a text behind place i. -/
theorem dat_drop {w : World} {b off n i : Nat} {xs : List Int} (h : Dat w b off n xs) (hi : i ≤ n) : Dat w b (off + i) (n - i) (xs.drop i) := by
  refine ⟨by rw [List.length_drop, h.1], fun j hj => ?_⟩
  have := h.2 (i + j) (by omega)
  have e : el (xs.drop i) j = el xs (i + j) := by unfold el; simp
  rw [e, ← this]
  congr 2
  omega
theorem byt_drop {xs : List Int} {i : Nat} (h : Byt xs) : Byt (xs.drop i) := by
  intro j
  have e : el (xs.drop i) j = el xs (i + j) := by unfold el; simp
  rw [e]; exact h _
/-- The text up to place e. -/
theorem dat_take {w : World} {b off n e : Nat} {xs : List Int} (h : Dat w b off n xs) (he : e ≤ n) : Dat w b off e (xs.take e) := by
  refine ⟨by rw [List.length_take, h.1]; omega, fun j hj => ?_⟩
  have := h.2 j (by omega)
  have e : el (xs.take e) j = el xs j := by unfold el; simp [hj]
  rw [e, ← this]
theorem byt_take {xs : List Int} {e : Nat} (h : Byt xs) : Byt (xs.take e) := by
  intro j
  by_cases hj : j < e
  · have e : el (xs.take e) j = el xs j := by unfold el; simp [hj]
    rw [e]; exact h _
  · have e : el (xs.take e) j = 0 := by unfold el; rw [List.getD_eq_getElem?_getD, List.getElem?_eq_none (by rw [List.length_take]; omega)]; rfl
    rw [e]; omega

end Go.Proofs.Qxb6602447a
