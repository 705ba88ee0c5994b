/-
  THE CLOSED FACTS of the row of Rows.FnPositionScanModelSaid. The three that read the words of the dump's head go by its first three words alone: taken whole, the kernel's reckoning on the long head costs up to 10 GB of memory.
-/
import Derived.Test.Qxb6602744aRows
import Derived.WalkKit
import Derived.ProofKit
namespace Go.Proofs.Qxb6602744a.fnPositionScanModel
open Go.ChangeShapes Go.WideShapes Go.ChangeAt Go.RowKit

/-! ### The first three words of the dump's head -/
def chars (l : List Nat) : List Char := l.map Char.ofNat
def w0 : List Char := chars [104, 97, 114, 110, 101, 115, 115]
def w1 : List Char := chars [99, 48, 55, 48, 100, 102, 49, 51, 97, 98, 101, 52, 50, 98, 53, 52, 57, 101, 49, 51, 55, 57, 52, 57, 57, 102, 99, 97, 98, 53, 55, 101, 52, 98, 51, 101, 49, 48, 54, 52, 50, 54,
    100, 50, 98, 101, 49, 101, 56, 54, 49, 51, 100, 100, 53, 57, 56, 50, 52, 54, 53, 100, 98, 48]
def w2 : List Char := chars [99, 117, 116]
def rest : List Char := chars [97, 116, 32, 101, 120, 97, 109, 112, 108, 101, 46, 99, 111, 109, 47, 116, 111, 108, 108, 107, 101, 101, 112, 101, 114, 47, 116, 111, 108, 108, 107, 101, 101, 112, 101, 114, 47,
    122, 122, 108, 97, 119, 115, 95, 99, 111, 110, 102, 105, 103, 95, 98, 49, 46, 70, 110, 74, 111, 105, 110, 65, 115, 115, 111, 99, 105, 97, 116, 105, 118, 101, 67, 97, 115, 101, 84,
    97, 98, 108, 101, 32, 101, 120, 97, 109, 112, 108, 101, 46, 99, 111, 109, 47, 116, 111, 108, 108, 107, 101, 101, 112, 101, 114, 47, 116, 111, 108, 108, 107, 101, 101, 112, 101,
    114, 47, 122, 122, 108, 97, 119, 115, 95, 99, 111, 110, 102, 105, 103, 95, 98, 49, 46, 70, 110, 80, 111, 115, 105, 116, 105, 111, 110, 83, 99, 97, 110, 77, 111, 100, 101, 108, 32,
    101, 120, 97, 109, 112, 108, 101, 46, 99, 111, 109, 47, 116, 111, 108, 108, 107, 101, 101, 112, 101, 114, 47, 116, 111, 108, 108, 107, 101, 101, 112, 101, 114, 47, 122, 122, 108,
    97, 119, 115, 95, 99, 111, 110, 102, 105, 103, 95, 98, 49, 46, 70, 110, 80, 111, 115, 105, 116, 105, 111, 110, 77, 111, 110, 111, 116, 111, 110, 101, 73, 110, 79, 102, 102, 115,
    101, 116, 32, 101, 120, 97, 109, 112, 108, 101, 46, 99, 111, 109, 47, 116, 111, 108, 108, 107, 101, 101, 112, 101, 114, 47, 116, 111, 108, 108, 107, 101, 101, 112, 101, 114, 47,
    122, 122, 108, 97, 119, 115, 95, 99, 111, 110, 102, 105, 103, 95, 98, 49, 46, 70, 110, 80, 111, 115, 105, 116, 105, 111, 110, 73, 103, 110, 111, 114, 101, 115, 66, 121, 116, 101,
    115, 65, 102, 116, 101, 114]
theorem head_is : Try.prog.initOrder = String.ofList (w0 ++ ' ' :: (w1 ++ ' ' :: (w2 ++ ' ' :: rest))) := by kernel_rfl
theorem words_app : ∀ (w r : List Char), (w.all fun c => c != ' ') = true → wordsSigns (w ++ ' ' :: r) = w :: wordsSigns r
  | [], r, _ => rfl
  | c :: w, r, h => by
    rw [List.all_cons, Bool.and_eq_true] at h
    have ih := words_app w r h.2
    have hc : ¬ c = ' ' := by simpa using h.1
    show wordsSigns (c :: (w ++ ' ' :: r)) = _
    rw [wordsSigns, ih]
    exact hc
theorem words_are : wordsSigns Try.prog.initOrder.toList = w0 :: w1 :: w2 :: wordsSigns rest :=
  (congrArg (fun s : String => wordsSigns s.toList) head_is).trans ((congrArg wordsSigns String.toList_ofList).trans
    ((words_app w0 _ (by decide +kernel)).trans (congrArg (w0 :: ·) ((words_app w1 _ (by decide +kernel)).trans (congrArg (w1 :: ·) (words_app w2 _ (by decide +kernel)))))))
theorem behind_is : behindMainWord (wordsSigns Try.prog.initOrder.toList) = "cut".toList :: wordsSigns rest :=
  (congrArg behindMainWord words_are).trans (by kernel_rfl)

/-! ### What the words say, of whatever program -/
theorem strip_cut (r : List (List Char)) : stripLifts liftWords ("cut".toList :: r) = ([], "cut".toList :: r) := by kernel_rfl
theorem make_cut {P : Program} {r : List (List Char)} (h : behindMainWord (wordsSigns P.initOrder.toList) = "cut".toList :: r) : P.make = some .cut := by
  unfold Program.make
  rw [h]
  simp
theorem lifts_cut {P : Program} {r : List (List Char)} (h : behindMainWord (wordsSigns P.initOrder.toList) = "cut".toList :: r) : P.liftsFinal = false := by
  unfold Program.liftsFinal Program.headLifts
  rw [h, strip_cut]
  simp
theorem enter_cut {P : Program} {r : List (List Char)} (h : behindMainWord (wordsSigns P.initOrder.toList) = "cut".toList :: r) (h1 : P.laysLater = false) (h2 : P.bearsReflect = false) (h3 : P.doorFits [] = true) : P.mayEnter = true := by
  unfold Program.mayEnter
  rw [h]
  simp only [strip_cut, h1, h2, h3]
  simp
theorem none_later : Try.prog.laysLater = false := by kernel_rfl
theorem none_reflects : Try.prog.bearsReflect = false := by kernel_rfl
theorem door_fits : Try.prog.doorFits [] = true := by kernel_rfl

theorem enter_is : Try.prog.mayEnter = true := enter_cut behind_is none_later none_reflects door_fits
theorem lifts_is : Try.prog.liftsFinal = false := lifts_cut behind_is
theorem make_is : Try.prog.make = some .cut := make_cut behind_is

/-- All of the row's closed facts: the three that read the head by the words, the rest by the kernel. -/
theorem closed : joinedFacts Try.prog 4 Try.f4 Rows.fnPositionScanModelSpec Rows.fnPositionScanModelRow = true := by
  unfold joinedFacts
  rw [enter_is, lifts_is, make_is]
  kernel_rfl
end Go.Proofs.Qxb6602744a.fnPositionScanModel
