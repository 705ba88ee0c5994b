/-
  THE CLOSED FACTS of the row of Rows.FnPositionScanModelSaid, one theorem each. The three that read the words of the dump's head go by the first three words alone: taken whole, the kernel's reckoning on the long head runs out of memory.
-/
import Derived.Test.Qxb6602744aRows
import Derived.WalkKit
import Derived.ProofKit
namespace Go.Proofs.Qxb6602744a.fnPositionScanModel
open Go.ChangeShapes Go.WideShapes Go.ChangeAt Go.RowKit

/-! ### The first three words of the dump's head -/
def chars (l : List Nat) : List Char := l.map Char.ofNat
def w0 : List Char := chars [104, 97, 114, 110, 101, 115, 115]
def w1 : List Char := chars [99, 48, 55, 48, 100, 102, 49, 51, 97, 98, 101, 52, 50, 98, 53, 52, 57, 101, 49, 51, 55, 57, 52, 57, 57, 102, 99, 97, 98, 53, 55, 101, 52, 98, 51, 101, 49, 48, 54, 52, 50, 54,
    100, 50, 98, 101, 49, 101, 56, 54, 49, 51, 100, 100, 53, 57, 56, 50, 52, 54, 53, 100, 98, 48]
def w2 : List Char := chars [99, 117, 116]
def rest : List Char := chars [97, 116, 32, 101, 120, 97, 109, 112, 108, 101, 46, 99, 111, 109, 47, 116, 111, 108, 108, 107, 101, 101, 112, 101, 114, 47, 116, 111, 108, 108, 107, 101, 101, 112, 101, 114, 47,
    122, 122, 108, 97, 119, 115, 95, 99, 111, 110, 102, 105, 103, 95, 98, 49, 46, 70, 110, 74, 111, 105, 110, 65, 115, 115, 111, 99, 105, 97, 116, 105, 118, 101, 67, 97, 115, 101, 84,
    97, 98, 108, 101, 32, 101, 120, 97, 109, 112, 108, 101, 46, 99, 111, 109, 47, 116, 111, 108, 108, 107, 101, 101, 112, 101, 114, 47, 116, 111, 108, 108, 107, 101, 101, 112, 101,
    114, 47, 122, 122, 108, 97, 119, 115, 95, 99, 111, 110, 102, 105, 103, 95, 98, 49, 46, 70, 110, 80, 111, 115, 105, 116, 105, 111, 110, 83, 99, 97, 110, 77, 111, 100, 101, 108, 32,
    101, 120, 97, 109, 112, 108, 101, 46, 99, 111, 109, 47, 116, 111, 108, 108, 107, 101, 101, 112, 101, 114, 47, 116, 111, 108, 108, 107, 101, 101, 112, 101, 114, 47, 122, 122, 108,
    97, 119, 115, 95, 99, 111, 110, 102, 105, 103, 95, 98, 49, 46, 70, 110, 80, 111, 115, 105, 116, 105, 111, 110, 77, 111, 110, 111, 116, 111, 110, 101, 73, 110, 79, 102, 102, 115,
    101, 116, 32, 101, 120, 97, 109, 112, 108, 101, 46, 99, 111, 109, 47, 116, 111, 108, 108, 107, 101, 101, 112, 101, 114, 47, 116, 111, 108, 108, 107, 101, 101, 112, 101, 114, 47,
    122, 122, 108, 97, 119, 115, 95, 99, 111, 110, 102, 105, 103, 95, 98, 49, 46, 70, 110, 80, 111, 115, 105, 116, 105, 111, 110, 73, 103, 110, 111, 114, 101, 115, 66, 121, 116, 101,
    115, 65, 102, 116, 101, 114]
theorem head_is : Try.prog.initOrder = String.ofList (w0 ++ ' ' :: (w1 ++ ' ' :: (w2 ++ ' ' :: rest))) := by kernel_rfl
theorem words_app : ∀ (w r : List Char), (w.all fun c => c != ' ') = true → wordsSigns (w ++ ' ' :: r) = w :: wordsSigns r
  | [], r, _ => rfl
  | c :: w, r, h => by
    rw [List.all_cons, Bool.and_eq_true] at h
    have ih := words_app w r h.2
    have hc : ¬ c = ' ' := by simpa using h.1
    show wordsSigns (c :: (w ++ ' ' :: r)) = _
    rw [wordsSigns, ih]
    exact hc
theorem words_are : wordsSigns Try.prog.initOrder.toList = w0 :: w1 :: w2 :: wordsSigns rest :=
  (congrArg (fun s : String => wordsSigns s.toList) head_is).trans ((congrArg wordsSigns String.toList_ofList).trans
    ((words_app w0 _ (by decide +kernel)).trans (congrArg (w0 :: ·) ((words_app w1 _ (by decide +kernel)).trans (congrArg (w1 :: ·) (words_app w2 _ (by decide +kernel)))))))
theorem behind_is : behindMainWord (wordsSigns Try.prog.initOrder.toList) = "cut".toList :: wordsSigns rest :=
  (congrArg behindMainWord words_are).trans (by kernel_rfl)

/-! ### What the words say, of whatever program -/
theorem strip_cut (r : List (List Char)) : stripLifts liftWords ("cut".toList :: r) = ([], "cut".toList :: r) := by kernel_rfl
theorem make_cut {P : Program} {r : List (List Char)} (h : behindMainWord (wordsSigns P.initOrder.toList) = "cut".toList :: r) : P.make = some .cut := by
  unfold Program.make
  rw [h]
  simp
theorem lifts_cut {P : Program} {r : List (List Char)} (h : behindMainWord (wordsSigns P.initOrder.toList) = "cut".toList :: r) : P.liftsFinal = false := by
  unfold Program.liftsFinal Program.headLifts
  rw [h, strip_cut]
  simp
theorem enter_cut {P : Program} {r : List (List Char)} (h : behindMainWord (wordsSigns P.initOrder.toList) = "cut".toList :: r) (h1 : P.laysLater = false) (h2 : P.bearsReflect = false) (h3 : P.doorFits [] = true) : P.mayEnter = true := by
  unfold Program.mayEnter
  rw [h]
  simp only [strip_cut, h1, h2, h3]
  simp
theorem none_later : Try.prog.laysLater = false := by kernel_rfl
theorem none_reflects : Try.prog.bearsReflect = false := by kernel_rfl
theorem door_fits : Try.prog.doorFits [] = true := by kernel_rfl

theorem fact1 : (Rows.fnPositionScanModelRow.wf (OpenSpec.ofChange Rows.fnPositionScanModelSpec)) = true := by kernel_rfl
theorem fact2 : (laidOutB Try.prog) = true := by kernel_rfl
theorem fact3 : (mapsRowed Try.prog) = true := by kernel_rfl
theorem fact4 : (Try.f4.params.all (Try.prog.readableRec ·)) = true := by kernel_rfl
theorem fact5 : (namedTie Try.prog Rows.fnPositionScanModelRow.named Rows.fnPositionScanModelSpec.vars) = true := by kernel_rfl
theorem fact6 : ((Rows.fnPositionScanModelRow.stops == [])) = true := by kernel_rfl
theorem fact7 : ((Try.prog.stops == [])) = true := by kernel_rfl
theorem fact8 : ((Rows.fnPositionScanModelRow.knobs == [])) = true := by kernel_rfl
theorem fact9 : ((Try.prog.stopKnobs == [])) = true := by kernel_rfl
theorem fact10 : ((Rows.fnPositionScanModelRow.inPlace == Try.prog.inPlace 4)) = true := by kernel_rfl
theorem fact11 : ((Rows.fnPositionScanModelRow.unfollowed == Try.prog.unfollowed 4)) = true := by kernel_rfl
theorem fact12 : ((Rows.fnPositionScanModelRow.recurses == Try.prog.recurses 4)) = true := by kernel_rfl
theorem fact13 : ((Rows.fnPositionScanModelRow.named == Try.prog.varsNamed 4)) = true := by kernel_rfl
theorem fact14 : ((Rows.fnPositionScanModelRow.maps == (Try.f4.params.toList ++ Rows.fnPositionScanModelSpec.plain.varTypes Try.prog).any (Try.prog.mapsRec ·))) = true := by kernel_rfl
theorem fact15 : ((Rows.fnPositionScanModelRow.ifaces == (Try.f4.params.toList ++ Rows.fnPositionScanModelSpec.plain.varTypes Try.prog).any (Try.prog.ifacesRec ·))) = true := by kernel_rfl
theorem fact16 : ((Rows.fnPositionScanModelRow.mapsOut == Try.prog.mapsAmong Try.f4.resultTypes.toList)) = true := by kernel_rfl
theorem fact17 : ((Rows.fnPositionScanModelRow.loops == (Try.f4.params.toList ++ Rows.fnPositionScanModelSpec.plain.varTypes Try.prog).any (Try.prog.loopsFrom ·))) = true := by kernel_rfl
theorem fact18 : ((Rows.fnPositionScanModelRow.wideKeys == (Try.f4.params.toList ++ Rows.fnPositionScanModelSpec.plain.varTypes Try.prog ++ Try.f4.resultTypes.toList).any (Try.prog.wideKeysFrom ·))) = true := by kernel_rfl
theorem fact19 : (Rows.fnPositionScanModelSpec.vars.all (Try.prog.varReadable ·)) = true := by kernel_rfl
theorem fact20 : (Try.f4.resultTypes.all (fun t => Try.prog.readableRec t && decide (t < Try.prog.types.size))) = true := by kernel_rfl
theorem fact21 : ((Rows.fnPositionScanModelRow.ifacesOut == Try.f4.resultTypes.toList.any (Try.prog.ifacesRec ·))) = true := by kernel_rfl
theorem fact22 : ((Rows.fnPositionScanModelRow.loopsOut == Try.f4.resultTypes.toList.any (Try.prog.loopsFrom ·))) = true := by kernel_rfl
theorem fact23 : ((Rows.fnPositionScanModelRow.plainKeys == Try.prog.plainKeys)) = true := by kernel_rfl
theorem fact24 : (Rows.fnPositionScanModelRow.shortTexts.isNone) = true := by kernel_rfl
theorem fact25 : (Try.prog.stopsHeard) = true := by kernel_rfl
theorem fact26 : (Try.prog.mayEnter) = true := enter_cut behind_is none_later none_reflects door_fits
theorem fact27 : ((Rows.fnPositionScanModelRow.lifted == Try.prog.liftsFinal)) = true := by rw [lifts_cut behind_is]; kernel_rfl
theorem fact28 : ((Try.prog.make == some Rows.fnPositionScanModelRow.make)) = true := by rw [make_cut behind_is]; kernel_rfl
theorem fact29 : ((Rows.fnPositionScanModelRow.kinds == (if Rows.fnPositionScanModelRow.domain.isEmpty then [] else Try.f4.params.toList.map fun t => match Try.prog.underlying t with | some (.int k) => some k | _ => none))) = true := by kernel_rfl
theorem fact30 : ((Rows.fnPositionScanModelRow.pinned == Rows.fnPositionScanModelRow.pinnedBy)) = true := by kernel_rfl
theorem fact31 : ((Rows.fnPositionScanModelRow.veiled == (Try.f4.params.toList ++ Rows.fnPositionScanModelSpec.plain.varTypes Try.prog ++ Try.f4.resultTypes.toList).any (Try.prog.veiledRec ·))) = true := by kernel_rfl
theorem fact32 : (Rows.fnPositionScanModelRow.veiledFits Try.prog Try.f4.params.toList (Try.f4.params.toList ++ Rows.fnPositionScanModelSpec.plain.varTypes Try.prog ++ Try.f4.resultTypes.toList)) = true := by kernel_rfl
theorem both {a b : Bool} (ha : a = true) (hb : b = true) : (a && b) = true := by rw [ha, hb]; rfl
theorem closed : joinedFacts Try.prog 4 Try.f4 Rows.fnPositionScanModelSpec Rows.fnPositionScanModelRow = true :=
  both (both (both (both (both (both (both (both (both (both (both (both (both (both (both (both (both (both (both (both (both (both (both (both (both (both (both (both (both (both (both (fact1) fact2) fact3) fact4) fact5) fact6) fact7) fact8) fact9) fact10) fact11) fact12) fact13) fact14) fact15) fact16) fact17) fact18) fact19) fact20) fact21) fact22) fact23) fact24) fact25) fact26) fact27) fact28) fact29) fact30) fact31) fact32
end Go.Proofs.Qxb6602744a.fnPositionScanModel
