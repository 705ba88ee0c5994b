/-
  THE CLOSED FACTS of the row of Rows.FnValueEndPrefixClosedSaid, one theorem each. The three that read the words of the dump's head go by the first three words alone: taken whole, the kernel's reckoning on the long head runs out of memory.
-/
import Derived.Test.Qxb6602447aRows
import Derived.WalkKit
import Derived.ProofKit
namespace Go.Proofs.Qxb6602447a.fnValueEndPrefixClosed
open Go.ChangeShapes Go.WideShapes Go.ChangeAt Go.RowKit

/-! ### The first three words of the dump's head -/
def chars (l : List Nat) : List Char := l.map Char.ofNat
def w0 : List Char := chars [104, 97, 114, 110, 101, 115, 115]
def w1 : List Char := chars [52, 49, 54, 50, 98, 56, 54, 49, 99, 56, 57, 48, 55, 101, 52, 98, 102, 57, 100, 50, 101, 102, 102, 102, 55, 54, 97, 98, 53, 50, 57, 57, 99, 97, 52, 56, 49, 52, 51, 52, 48, 53, 97,
    102, 100, 55, 102, 55, 49, 57, 51, 49, 100, 57, 57, 50, 56, 49, 53, 53, 51, 101, 57, 56]
def w2 : List Char := chars [99, 117, 116]
def rest : List Char := chars [97, 116, 32, 101, 120, 97, 109, 112, 108, 101, 46, 99, 111, 109, 47, 110, 117, 109, 97, 119, 101, 97, 118, 101, 47, 110, 117, 109, 97, 119, 101, 97, 118, 101, 47, 122, 122, 108,
    97, 119, 115, 95, 105, 110, 116, 101, 114, 110, 97, 108, 95, 106, 115, 111, 110, 102, 105, 101, 108, 100, 115, 95, 98, 49, 46, 70, 110, 86, 97, 108, 117, 101, 69, 110, 100, 77,
    97, 116, 99, 104, 101, 115, 83, 99, 97, 110, 110, 101, 114, 32, 101, 120, 97, 109, 112, 108, 101, 46, 99, 111, 109, 47, 110, 117, 109, 97, 119, 101, 97, 118, 101, 47, 110, 117,
    109, 97, 119, 101, 97, 118, 101, 47, 122, 122, 108, 97, 119, 115, 95, 105, 110, 116, 101, 114, 110, 97, 108, 95, 106, 115, 111, 110, 102, 105, 101, 108, 100, 115, 95, 98, 49, 46,
    70, 110, 86, 97, 108, 117, 101, 69, 110, 100, 82, 101, 97, 100, 115, 70, 114, 111, 109, 73, 79, 110, 119, 97, 114, 100, 32, 101, 120, 97, 109, 112, 108, 101, 46, 99, 111, 109, 47,
    110, 117, 109, 97, 119, 101, 97, 118, 101, 47, 110, 117, 109, 97, 119, 101, 97, 118, 101, 47, 122, 122, 108, 97, 119, 115, 95, 105, 110, 116, 101, 114, 110, 97, 108, 95, 106, 115,
    111, 110, 102, 105, 101, 108, 100, 115, 95, 98, 49, 46, 70, 110, 86, 97, 108, 117, 101, 69, 110, 100, 80, 114, 101, 102, 105, 120, 67, 108, 111, 115, 101, 100, 32, 101, 120, 97,
    109, 112, 108, 101, 46, 99, 111, 109, 47, 110, 117, 109, 97, 119, 101, 97, 118, 101, 47, 110, 117, 109, 97, 119, 101, 97, 118, 101, 47, 122, 122, 108, 97, 119, 115, 95, 105, 110,
    116, 101, 114, 110, 97, 108, 95, 106, 115, 111, 110, 102, 105, 101, 108, 100, 115, 95, 98, 49, 46, 70, 110, 77, 101, 109, 98, 101, 114, 83, 116, 97, 114, 116, 82, 101, 97, 100,
    115, 78, 111, 70, 117, 114, 116, 104, 101, 114, 32, 101, 120, 97, 109, 112, 108, 101, 46, 99, 111, 109, 47, 110, 117, 109, 97, 119, 101, 97, 118, 101, 47, 110, 117, 109, 97, 119,
    101, 97, 118, 101, 47, 122, 122, 108, 97, 119, 115, 95, 105, 110, 116, 101, 114, 110, 97, 108, 95, 106, 115, 111, 110, 102, 105, 101, 108, 100, 115, 95, 98, 49, 46, 70, 110, 77,
    101, 109, 98, 101, 114, 83, 116, 97, 114, 116, 70, 105, 110, 100, 115, 66, 117, 105, 108, 116, 77, 101, 109, 98, 101, 114, 115, 32, 101, 120, 97, 109, 112, 108, 101, 46, 99, 111,
    109, 47, 110, 117, 109, 97, 119, 101, 97, 118, 101, 47, 110, 117, 109, 97, 119, 101, 97, 118, 101, 47, 122, 122, 108, 97, 119, 115, 95, 105, 110, 116, 101, 114, 110, 97, 108, 95,
    106, 115, 111, 110, 102, 105, 101, 108, 100, 115, 95, 98, 49, 46, 70, 110, 70, 105, 101, 108, 100, 115, 77, 101, 116, 65, 100, 100, 82, 101, 109, 101, 109, 98, 101, 114, 115, 70,
    105, 114, 115, 116, 76, 105, 110, 101]
theorem head_is : Try.prog.initOrder = String.ofList (w0 ++ ' ' :: (w1 ++ ' ' :: (w2 ++ ' ' :: rest))) := by kernel_rfl
theorem words_app : ∀ (w r : List Char), (w.all fun c => c != ' ') = true → wordsSigns (w ++ ' ' :: r) = w :: wordsSigns r
  | [], r, _ => rfl
  | c :: w, r, h => by
    rw [List.all_cons, Bool.and_eq_true] at h
    have ih := words_app w r h.2
    have hc : ¬ c = ' ' := by simpa using h.1
    show wordsSigns (c :: (w ++ ' ' :: r)) = _
    rw [wordsSigns, ih]
    exact hc
theorem words_are : wordsSigns Try.prog.initOrder.toList = w0 :: w1 :: w2 :: wordsSigns rest :=
  (congrArg (fun s : String => wordsSigns s.toList) head_is).trans ((congrArg wordsSigns String.toList_ofList).trans
    ((words_app w0 _ (by decide +kernel)).trans (congrArg (w0 :: ·) ((words_app w1 _ (by decide +kernel)).trans (congrArg (w1 :: ·) (words_app w2 _ (by decide +kernel)))))))
theorem behind_is : behindMainWord (wordsSigns Try.prog.initOrder.toList) = "cut".toList :: wordsSigns rest :=
  (congrArg behindMainWord words_are).trans (by kernel_rfl)

/-! ### What the words say, of whatever program -/
theorem strip_cut (r : List (List Char)) : stripLifts liftWords ("cut".toList :: r) = ([], "cut".toList :: r) := by kernel_rfl
theorem make_cut {P : Program} {r : List (List Char)} (h : behindMainWord (wordsSigns P.initOrder.toList) = "cut".toList :: r) : P.make = some .cut := by
  unfold Program.make
  rw [h]
  simp
theorem lifts_cut {P : Program} {r : List (List Char)} (h : behindMainWord (wordsSigns P.initOrder.toList) = "cut".toList :: r) : P.liftsFinal = false := by
  unfold Program.liftsFinal Program.headLifts
  rw [h, strip_cut]
  simp
theorem enter_cut {P : Program} {r : List (List Char)} (h : behindMainWord (wordsSigns P.initOrder.toList) = "cut".toList :: r) (h1 : P.laysLater = false) (h2 : P.bearsReflect = false) (h3 : P.doorFits [] = true) : P.mayEnter = true := by
  unfold Program.mayEnter
  rw [h]
  simp only [strip_cut, h1, h2, h3]
  simp
theorem none_later : Try.prog.laysLater = false := by kernel_rfl
theorem none_reflects : Try.prog.bearsReflect = false := by kernel_rfl
theorem door_fits : Try.prog.doorFits [] = true := by kernel_rfl

theorem fact1 : (Rows.fnValueEndPrefixClosedRow.wf (OpenSpec.ofChange Rows.fnValueEndPrefixClosedSpec)) = true := by kernel_rfl
theorem fact2 : (laidOutB Try.prog) = true := by kernel_rfl
theorem fact3 : (mapsRowed Try.prog) = true := by kernel_rfl
theorem fact4 : (Try.f5.params.all (Try.prog.readableRec ·)) = true := by kernel_rfl
theorem fact5 : (namedTie Try.prog Rows.fnValueEndPrefixClosedRow.named Rows.fnValueEndPrefixClosedSpec.vars) = true := by kernel_rfl
theorem fact6 : ((Rows.fnValueEndPrefixClosedRow.stops == [])) = true := by kernel_rfl
theorem fact7 : ((Try.prog.stops == [])) = true := by kernel_rfl
theorem fact8 : ((Rows.fnValueEndPrefixClosedRow.knobs == [])) = true := by kernel_rfl
theorem fact9 : ((Try.prog.stopKnobs == [])) = true := by kernel_rfl
theorem fact10 : ((Rows.fnValueEndPrefixClosedRow.inPlace == Try.prog.inPlace 5)) = true := by kernel_rfl
theorem fact11 : ((Rows.fnValueEndPrefixClosedRow.unfollowed == Try.prog.unfollowed 5)) = true := by kernel_rfl
theorem fact12 : ((Rows.fnValueEndPrefixClosedRow.recurses == Try.prog.recurses 5)) = true := by kernel_rfl
theorem fact13 : ((Rows.fnValueEndPrefixClosedRow.named == Try.prog.varsNamed 5)) = true := by kernel_rfl
theorem fact14 : ((Rows.fnValueEndPrefixClosedRow.maps == (Try.f5.params.toList ++ Rows.fnValueEndPrefixClosedSpec.plain.varTypes Try.prog).any (Try.prog.mapsRec ·))) = true := by kernel_rfl
theorem fact15 : ((Rows.fnValueEndPrefixClosedRow.ifaces == (Try.f5.params.toList ++ Rows.fnValueEndPrefixClosedSpec.plain.varTypes Try.prog).any (Try.prog.ifacesRec ·))) = true := by kernel_rfl
theorem fact16 : ((Rows.fnValueEndPrefixClosedRow.mapsOut == Try.prog.mapsAmong Try.f5.resultTypes.toList)) = true := by kernel_rfl
theorem fact17 : ((Rows.fnValueEndPrefixClosedRow.loops == (Try.f5.params.toList ++ Rows.fnValueEndPrefixClosedSpec.plain.varTypes Try.prog).any (Try.prog.loopsFrom ·))) = true := by kernel_rfl
theorem fact18 : ((Rows.fnValueEndPrefixClosedRow.wideKeys == (Try.f5.params.toList ++ Rows.fnValueEndPrefixClosedSpec.plain.varTypes Try.prog ++ Try.f5.resultTypes.toList).any (Try.prog.wideKeysFrom ·))) = true := by kernel_rfl
theorem fact19 : (Rows.fnValueEndPrefixClosedSpec.vars.all (Try.prog.varReadable ·)) = true := by kernel_rfl
theorem fact20 : (Try.f5.resultTypes.all (fun t => Try.prog.readableRec t && decide (t < Try.prog.types.size))) = true := by kernel_rfl
theorem fact21 : ((Rows.fnValueEndPrefixClosedRow.ifacesOut == Try.f5.resultTypes.toList.any (Try.prog.ifacesRec ·))) = true := by kernel_rfl
theorem fact22 : ((Rows.fnValueEndPrefixClosedRow.loopsOut == Try.f5.resultTypes.toList.any (Try.prog.loopsFrom ·))) = true := by kernel_rfl
theorem fact23 : ((Rows.fnValueEndPrefixClosedRow.plainKeys == Try.prog.plainKeys)) = true := by kernel_rfl
theorem fact24 : (Rows.fnValueEndPrefixClosedRow.shortTexts.isNone) = true := by kernel_rfl
theorem fact25 : (Try.prog.stopsHeard) = true := by kernel_rfl
theorem fact26 : (Try.prog.mayEnter) = true := enter_cut behind_is none_later none_reflects door_fits
theorem fact27 : ((Rows.fnValueEndPrefixClosedRow.lifted == Try.prog.liftsFinal)) = true := by rw [lifts_cut behind_is]; kernel_rfl
theorem fact28 : ((Try.prog.make == some Rows.fnValueEndPrefixClosedRow.make)) = true := by rw [make_cut behind_is]; kernel_rfl
theorem fact29 : ((Rows.fnValueEndPrefixClosedRow.kinds == (if Rows.fnValueEndPrefixClosedRow.domain.isEmpty then [] else Try.f5.params.toList.map fun t => match Try.prog.underlying t with | some (.int k) => some k | _ => none))) = true := by kernel_rfl
theorem fact30 : ((Rows.fnValueEndPrefixClosedRow.pinned == Rows.fnValueEndPrefixClosedRow.pinnedBy)) = true := by kernel_rfl
theorem fact31 : ((Rows.fnValueEndPrefixClosedRow.veiled == (Try.f5.params.toList ++ Rows.fnValueEndPrefixClosedSpec.plain.varTypes Try.prog ++ Try.f5.resultTypes.toList).any (Try.prog.veiledRec ·))) = true := by kernel_rfl
theorem fact32 : (Rows.fnValueEndPrefixClosedRow.veiledFits Try.prog Try.f5.params.toList (Try.f5.params.toList ++ Rows.fnValueEndPrefixClosedSpec.plain.varTypes Try.prog ++ Try.f5.resultTypes.toList)) = true := by kernel_rfl
theorem both {a b : Bool} (ha : a = true) (hb : b = true) : (a && b) = true := by rw [ha, hb]; rfl
theorem closed : joinedFacts Try.prog 5 Try.f5 Rows.fnValueEndPrefixClosedSpec Rows.fnValueEndPrefixClosedRow = true :=
  both (both (both (both (both (both (both (both (both (both (both (both (both (both (both (both (both (both (both (both (both (both (both (both (both (both (both (both (both (both (both (fact1) fact2) fact3) fact4) fact5) fact6) fact7) fact8) fact9) fact10) fact11) fact12) fact13) fact14) fact15) fact16) fact17) fact18) fact19) fact20) fact21) fact22) fact23) fact24) fact25) fact26) fact27) fact28) fact29) fact30) fact31) fact32
end Go.Proofs.Qxb6602447a.fnValueEndPrefixClosed
