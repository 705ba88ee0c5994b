/-
  THE CLOSED FACTS of the row of Rows.FnValueEndReadsFromIOnwardSaid. The three that read the words of the dump's head go by its first three words alone: taken whole, the kernel's reckoning on the long head costs up to 10 GB of memory.
-/
import Derived.Test.Qxb6602447aRows
import Derived.WalkKit
import Derived.ProofKit
namespace Go.Proofs.Qxb6602447a.fnValueEndReadsFromIOnward
open Go.ChangeShapes Go.WideShapes Go.ChangeAt Go.RowKit

/-! ### The first three words of the dump's head -/
def chars (l : List Nat) : List Char := l.map Char.ofNat
def w0 : List Char := chars [104, 97, 114, 110, 101, 115, 115]
def w1 : List Char := chars [52, 49, 54, 50, 98, 56, 54, 49, 99, 56, 57, 48, 55, 101, 52, 98, 102, 57, 100, 50, 101, 102, 102, 102, 55, 54, 97, 98, 53, 50, 57, 57, 99, 97, 52, 56, 49, 52, 51, 52, 48, 53, 97,
    102, 100, 55, 102, 55, 49, 57, 51, 49, 100, 57, 57, 50, 56, 49, 53, 53, 51, 101, 57, 56]
def w2 : List Char := chars [99, 117, 116]
def rest : List Char := chars [97, 116, 32, 101, 120, 97, 109, 112, 108, 101, 46, 99, 111, 109, 47, 110, 117, 109, 97, 119, 101, 97, 118, 101, 47, 110, 117, 109, 97, 119, 101, 97, 118, 101, 47, 122, 122, 108,
    97, 119, 115, 95, 105, 110, 116, 101, 114, 110, 97, 108, 95, 106, 115, 111, 110, 102, 105, 101, 108, 100, 115, 95, 98, 49, 46, 70, 110, 86, 97, 108, 117, 101, 69, 110, 100, 77,
    97, 116, 99, 104, 101, 115, 83, 99, 97, 110, 110, 101, 114, 32, 101, 120, 97, 109, 112, 108, 101, 46, 99, 111, 109, 47, 110, 117, 109, 97, 119, 101, 97, 118, 101, 47, 110, 117,
    109, 97, 119, 101, 97, 118, 101, 47, 122, 122, 108, 97, 119, 115, 95, 105, 110, 116, 101, 114, 110, 97, 108, 95, 106, 115, 111, 110, 102, 105, 101, 108, 100, 115, 95, 98, 49, 46,
    70, 110, 86, 97, 108, 117, 101, 69, 110, 100, 82, 101, 97, 100, 115, 70, 114, 111, 109, 73, 79, 110, 119, 97, 114, 100, 32, 101, 120, 97, 109, 112, 108, 101, 46, 99, 111, 109, 47,
    110, 117, 109, 97, 119, 101, 97, 118, 101, 47, 110, 117, 109, 97, 119, 101, 97, 118, 101, 47, 122, 122, 108, 97, 119, 115, 95, 105, 110, 116, 101, 114, 110, 97, 108, 95, 106, 115,
    111, 110, 102, 105, 101, 108, 100, 115, 95, 98, 49, 46, 70, 110, 86, 97, 108, 117, 101, 69, 110, 100, 80, 114, 101, 102, 105, 120, 67, 108, 111, 115, 101, 100, 32, 101, 120, 97,
    109, 112, 108, 101, 46, 99, 111, 109, 47, 110, 117, 109, 97, 119, 101, 97, 118, 101, 47, 110, 117, 109, 97, 119, 101, 97, 118, 101, 47, 122, 122, 108, 97, 119, 115, 95, 105, 110,
    116, 101, 114, 110, 97, 108, 95, 106, 115, 111, 110, 102, 105, 101, 108, 100, 115, 95, 98, 49, 46, 70, 110, 77, 101, 109, 98, 101, 114, 83, 116, 97, 114, 116, 82, 101, 97, 100,
    115, 78, 111, 70, 117, 114, 116, 104, 101, 114, 32, 101, 120, 97, 109, 112, 108, 101, 46, 99, 111, 109, 47, 110, 117, 109, 97, 119, 101, 97, 118, 101, 47, 110, 117, 109, 97, 119,
    101, 97, 118, 101, 47, 122, 122, 108, 97, 119, 115, 95, 105, 110, 116, 101, 114, 110, 97, 108, 95, 106, 115, 111, 110, 102, 105, 101, 108, 100, 115, 95, 98, 49, 46, 70, 110, 77,
    101, 109, 98, 101, 114, 83, 116, 97, 114, 116, 70, 105, 110, 100, 115, 66, 117, 105, 108, 116, 77, 101, 109, 98, 101, 114, 115, 32, 101, 120, 97, 109, 112, 108, 101, 46, 99, 111,
    109, 47, 110, 117, 109, 97, 119, 101, 97, 118, 101, 47, 110, 117, 109, 97, 119, 101, 97, 118, 101, 47, 122, 122, 108, 97, 119, 115, 95, 105, 110, 116, 101, 114, 110, 97, 108, 95,
    106, 115, 111, 110, 102, 105, 101, 108, 100, 115, 95, 98, 49, 46, 70, 110, 70, 105, 101, 108, 100, 115, 77, 101, 116, 65, 100, 100, 82, 101, 109, 101, 109, 98, 101, 114, 115, 70,
    105, 114, 115, 116, 76, 105, 110, 101]
theorem head_is : Try.prog.initOrder = String.ofList (w0 ++ ' ' :: (w1 ++ ' ' :: (w2 ++ ' ' :: rest))) := by kernel_rfl
theorem words_app : ∀ (w r : List Char), (w.all fun c => c != ' ') = true → wordsSigns (w ++ ' ' :: r) = w :: wordsSigns r
  | [], r, _ => rfl
  | c :: w, r, h => by
    rw [List.all_cons, Bool.and_eq_true] at h
    have ih := words_app w r h.2
    have hc : ¬ c = ' ' := by simpa using h.1
    show wordsSigns (c :: (w ++ ' ' :: r)) = _
    rw [wordsSigns, ih]
    exact hc
theorem words_are : wordsSigns Try.prog.initOrder.toList = w0 :: w1 :: w2 :: wordsSigns rest :=
  (congrArg (fun s : String => wordsSigns s.toList) head_is).trans ((congrArg wordsSigns String.toList_ofList).trans
    ((words_app w0 _ (by decide +kernel)).trans (congrArg (w0 :: ·) ((words_app w1 _ (by decide +kernel)).trans (congrArg (w1 :: ·) (words_app w2 _ (by decide +kernel)))))))
theorem behind_is : behindMainWord (wordsSigns Try.prog.initOrder.toList) = "cut".toList :: wordsSigns rest :=
  (congrArg behindMainWord words_are).trans (by kernel_rfl)

/-! ### What the words say, of whatever program -/
theorem strip_cut (r : List (List Char)) : stripLifts liftWords ("cut".toList :: r) = ([], "cut".toList :: r) := by kernel_rfl
theorem make_cut {P : Program} {r : List (List Char)} (h : behindMainWord (wordsSigns P.initOrder.toList) = "cut".toList :: r) : P.make = some .cut := by
  unfold Program.make
  rw [h]
  simp
theorem lifts_cut {P : Program} {r : List (List Char)} (h : behindMainWord (wordsSigns P.initOrder.toList) = "cut".toList :: r) : P.liftsFinal = false := by
  unfold Program.liftsFinal Program.headLifts
  rw [h, strip_cut]
  simp
theorem enter_cut {P : Program} {r : List (List Char)} (h : behindMainWord (wordsSigns P.initOrder.toList) = "cut".toList :: r) (h1 : P.laysLater = false) (h2 : P.bearsReflect = false) (h3 : P.doorFits [] = true) : P.mayEnter = true := by
  unfold Program.mayEnter
  rw [h]
  simp only [strip_cut, h1, h2, h3]
  simp
theorem none_later : Try.prog.laysLater = false := by kernel_rfl
theorem none_reflects : Try.prog.bearsReflect = false := by kernel_rfl
theorem door_fits : Try.prog.doorFits [] = true := by kernel_rfl

theorem enter_is : Try.prog.mayEnter = true := enter_cut behind_is none_later none_reflects door_fits
theorem lifts_is : Try.prog.liftsFinal = false := lifts_cut behind_is
theorem make_is : Try.prog.make = some .cut := make_cut behind_is

/-- All of the row's closed facts: the three that read the head by the words, the rest by the kernel. -/
theorem closed : joinedFacts Try.prog 4 Try.f4 Rows.fnValueEndReadsFromIOnwardSpec Rows.fnValueEndReadsFromIOnwardRow = true := by
  unfold joinedFacts
  rw [enter_is, lifts_is, make_is]
  kernel_rfl
end Go.Proofs.Qxb6602447a.fnValueEndReadsFromIOnward
