/-
  THE CLOSED FACTS of the row of Rows.FnLineReaderNextReturnsLongestNewlineFreeRunSaid. The three that read the words of the dump's head go by its first three words alone: taken whole, the kernel's reckoning on the long head costs up to 10 GB of memory.
-/
import Derived.Test.Qxb6602462aRows
import Derived.WalkKit
import Derived.ProofKit
namespace Go.Proofs.Qxb6602462a.fnLineReaderNextReturnsLongestNewlineFreeRun
open Go.ChangeShapes Go.WideShapes Go.ChangeAt Go.RowKit

/-! ### The first three words of the dump's head -/
def chars (l : List Nat) : List Char := l.map Char.ofNat
def w0 : List Char := chars [104, 97, 114, 110, 101, 115, 115]
def w1 : List Char := chars [55, 52, 48, 48, 100, 57, 101, 100, 53, 57, 97, 99, 51, 51, 100, 101, 97, 54, 52, 99, 57, 102, 49, 98, 57, 49, 48, 97, 54, 52, 53, 53, 98, 56, 51, 53, 57, 55, 48, 99, 54, 55, 49,
    50, 99, 49, 99, 57, 102, 48, 101, 53, 99, 100, 51, 102, 99, 98, 100, 51, 56, 50, 55, 50]
def w2 : List Char := chars [99, 117, 116]
def rest : List Char := chars [97, 116, 32, 101, 120, 97, 109, 112, 108, 101, 46, 99, 111, 109, 47, 98, 117, 99, 107, 101, 116, 45, 97, 99, 99, 101, 115, 115, 45, 99, 104, 101, 99, 107, 47, 98, 117, 99, 107,
    101, 116, 45, 97, 99, 99, 101, 115, 115, 45, 99, 104, 101, 99, 107, 47, 122, 122, 108, 97, 119, 115, 95, 114, 111, 111, 116, 95, 98, 49, 46, 70, 110, 68, 105, 103, 105, 116, 115,
    65, 115, 87, 105, 108, 100, 99, 97, 114, 100, 115, 77, 97, 116, 99, 104, 101, 115, 82, 117, 110, 77, 111, 100, 101, 108, 32, 101, 120, 97, 109, 112, 108, 101, 46, 99, 111, 109,
    47, 98, 117, 99, 107, 101, 116, 45, 97, 99, 99, 101, 115, 115, 45, 99, 104, 101, 99, 107, 47, 98, 117, 99, 107, 101, 116, 45, 97, 99, 99, 101, 115, 115, 45, 99, 104, 101, 99, 107,
    47, 122, 122, 108, 97, 119, 115, 95, 114, 111, 111, 116, 95, 98, 49, 46, 70, 110, 68, 105, 103, 105, 116, 115, 65, 115, 87, 105, 108, 100, 99, 97, 114, 100, 115, 73, 100, 101,
    109, 112, 111, 116, 101, 110, 116, 32, 101, 120, 97, 109, 112, 108, 101, 46, 99, 111, 109, 47, 98, 117, 99, 107, 101, 116, 45, 97, 99, 99, 101, 115, 115, 45, 99, 104, 101, 99,
    107, 47, 98, 117, 99, 107, 101, 116, 45, 97, 99, 99, 101, 115, 115, 45, 99, 104, 101, 99, 107, 47, 122, 122, 108, 97, 119, 115, 95, 114, 111, 111, 116, 95, 98, 49, 46, 70, 110,
    68, 105, 103, 105, 116, 115, 65, 115, 87, 105, 108, 100, 99, 97, 114, 100, 115, 83, 112, 108, 105, 116, 115, 65, 116, 78, 111, 110, 68, 105, 103, 105, 116, 32, 101, 120, 97, 109,
    112, 108, 101, 46, 99, 111, 109, 47, 98, 117, 99, 107, 101, 116, 45, 97, 99, 99, 101, 115, 115, 45, 99, 104, 101, 99, 107, 47, 98, 117, 99, 107, 101, 116, 45, 97, 99, 99, 101,
    115, 115, 45, 99, 104, 101, 99, 107, 47, 122, 122, 108, 97, 119, 115, 95, 114, 111, 111, 116, 95, 98, 49, 46, 70, 110, 76, 105, 110, 101, 82, 101, 97, 100, 101, 114, 78, 101, 120,
    116, 82, 101, 116, 117, 114, 110, 115, 76, 111, 110, 103, 101, 115, 116, 78, 101, 119, 108, 105, 110, 101, 70, 114, 101, 101, 82, 117, 110, 32, 101, 120, 97, 109, 112, 108, 101,
    46, 99, 111, 109, 47, 98, 117, 99, 107, 101, 116, 45, 97, 99, 99, 101, 115, 115, 45, 99, 104, 101, 99, 107, 47, 98, 117, 99, 107, 101, 116, 45, 97, 99, 99, 101, 115, 115, 45, 99,
    104, 101, 99, 107, 47, 122, 122, 108, 97, 119, 115, 95, 114, 111, 111, 116, 95, 98, 49, 46, 70, 110, 76, 105, 110, 101, 82, 101, 97, 100, 101, 114, 76, 105, 110, 101, 115, 82,
    101, 106, 111, 105, 110, 84, 111, 84, 101, 120, 116, 32, 101, 120, 97, 109, 112, 108, 101, 46, 99, 111, 109, 47, 98, 117, 99, 107, 101, 116, 45, 97, 99, 99, 101, 115, 115, 45, 99,
    104, 101, 99, 107, 47, 98, 117, 99, 107, 101, 116, 45, 97, 99, 99, 101, 115, 115, 45, 99, 104, 101, 99, 107, 47, 122, 122, 108, 97, 119, 115, 95, 114, 111, 111, 116, 95, 98, 49,
    46, 70, 110, 68, 111, 99, 117, 109, 101, 110, 116, 83, 116, 97, 114, 116, 77, 97, 116, 99, 104, 101, 115, 77, 97, 114, 107, 101, 114, 77, 111, 100, 101, 108, 32, 101, 120, 97,
    109, 112, 108, 101, 46, 99, 111, 109, 47, 98, 117, 99, 107, 101, 116, 45, 97, 99, 99, 101, 115, 115, 45, 99, 104, 101, 99, 107, 47, 98, 117, 99, 107, 101, 116, 45, 97, 99, 99,
    101, 115, 115, 45, 99, 104, 101, 99, 107, 47, 122, 122, 108, 97, 119, 115, 95, 114, 111, 111, 116, 95, 98, 49, 46, 70, 110, 68, 111, 99, 117, 109, 101, 110, 116, 83, 116, 97, 114,
    116, 79, 118, 101, 114, 67, 111, 110, 99, 97, 116, 101, 110, 97, 116, 101, 100, 76, 105, 110, 101, 115]
theorem head_is : Try.prog.initOrder = String.ofList (w0 ++ ' ' :: (w1 ++ ' ' :: (w2 ++ ' ' :: rest))) := by kernel_rfl
theorem words_app : ∀ (w r : List Char), (w.all fun c => c != ' ') = true → wordsSigns (w ++ ' ' :: r) = w :: wordsSigns r
  | [], r, _ => rfl
  | c :: w, r, h => by
    rw [List.all_cons, Bool.and_eq_true] at h
    have ih := words_app w r h.2
    have hc : ¬ c = ' ' := by simpa using h.1
    show wordsSigns (c :: (w ++ ' ' :: r)) = _
    rw [wordsSigns, ih]
    exact hc
theorem words_are : wordsSigns Try.prog.initOrder.toList = w0 :: w1 :: w2 :: wordsSigns rest :=
  (congrArg (fun s : String => wordsSigns s.toList) head_is).trans ((congrArg wordsSigns String.toList_ofList).trans
    ((words_app w0 _ (by decide +kernel)).trans (congrArg (w0 :: ·) ((words_app w1 _ (by decide +kernel)).trans (congrArg (w1 :: ·) (words_app w2 _ (by decide +kernel)))))))
theorem behind_is : behindMainWord (wordsSigns Try.prog.initOrder.toList) = "cut".toList :: wordsSigns rest :=
  (congrArg behindMainWord words_are).trans (by kernel_rfl)

/-! ### What the words say, of whatever program -/
theorem strip_cut (r : List (List Char)) : stripLifts liftWords ("cut".toList :: r) = ([], "cut".toList :: r) := by kernel_rfl
theorem make_cut {P : Program} {r : List (List Char)} (h : behindMainWord (wordsSigns P.initOrder.toList) = "cut".toList :: r) : P.make = some .cut := by
  unfold Program.make
  rw [h]
  simp
theorem lifts_cut {P : Program} {r : List (List Char)} (h : behindMainWord (wordsSigns P.initOrder.toList) = "cut".toList :: r) : P.liftsFinal = false := by
  unfold Program.liftsFinal Program.headLifts
  rw [h, strip_cut]
  simp
theorem enter_cut {P : Program} {r : List (List Char)} (h : behindMainWord (wordsSigns P.initOrder.toList) = "cut".toList :: r) (h1 : P.laysLater = false) (h2 : P.bearsReflect = false) (h3 : P.doorFits [] = true) : P.mayEnter = true := by
  unfold Program.mayEnter
  rw [h]
  simp only [strip_cut, h1, h2, h3]
  simp
theorem none_later : Try.prog.laysLater = false := by kernel_rfl
theorem none_reflects : Try.prog.bearsReflect = false := by kernel_rfl
theorem door_fits : Try.prog.doorFits [] = true := by kernel_rfl

theorem enter_is : Try.prog.mayEnter = true := enter_cut behind_is none_later none_reflects door_fits
theorem lifts_is : Try.prog.liftsFinal = false := lifts_cut behind_is
theorem make_is : Try.prog.make = some .cut := make_cut behind_is

/-- All of the row's closed facts: the three that read the head by the words, the rest by the kernel. -/
theorem closed : joinedFacts Try.prog 6 Try.f6 Rows.fnLineReaderNextReturnsLongestNewlineFreeRunSpec Rows.fnLineReaderNextReturnsLongestNewlineFreeRunRow = true := by
  unfold joinedFacts
  rw [enter_is, lifts_is, make_is]
  kernel_rfl
end Go.Proofs.Qxb6602462a.fnLineReaderNextReturnsLongestNewlineFreeRun
