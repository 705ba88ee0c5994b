/-
  THE CLOSED FACTS of the row of Rows.FnLineReaderNextReturnsLongestNewlineFreeRunSaid, one theorem each. The three that read the words of the dump's head go by the first three words alone: taken whole, the kernel's reckoning on the long head runs out of memory.
-/
import Derived.Test.Qxb6602462aRows
import Derived.WalkKit
import Derived.ProofKit
namespace Go.Proofs.Qxb6602462a.fnLineReaderNextReturnsLongestNewlineFreeRun
open Go.ChangeShapes Go.WideShapes Go.ChangeAt Go.RowKit

/-! ### The first three words of the dump's head -/
def chars (l : List Nat) : List Char := l.map Char.ofNat
def w0 : List Char := chars [104, 97, 114, 110, 101, 115, 115]
def w1 : List Char := chars [55, 52, 48, 48, 100, 57, 101, 100, 53, 57, 97, 99, 51, 51, 100, 101, 97, 54, 52, 99, 57, 102, 49, 98, 57, 49, 48, 97, 54, 52, 53, 53, 98, 56, 51, 53, 57, 55, 48, 99, 54, 55, 49,
    50, 99, 49, 99, 57, 102, 48, 101, 53, 99, 100, 51, 102, 99, 98, 100, 51, 56, 50, 55, 50]
def w2 : List Char := chars [99, 117, 116]
def rest : List Char := chars [97, 116, 32, 101, 120, 97, 109, 112, 108, 101, 46, 99, 111, 109, 47, 98, 117, 99, 107, 101, 116, 45, 97, 99, 99, 101, 115, 115, 45, 99, 104, 101, 99, 107, 47, 98, 117, 99, 107,
    101, 116, 45, 97, 99, 99, 101, 115, 115, 45, 99, 104, 101, 99, 107, 47, 122, 122, 108, 97, 119, 115, 95, 114, 111, 111, 116, 95, 98, 49, 46, 70, 110, 68, 105, 103, 105, 116, 115,
    65, 115, 87, 105, 108, 100, 99, 97, 114, 100, 115, 77, 97, 116, 99, 104, 101, 115, 82, 117, 110, 77, 111, 100, 101, 108, 32, 101, 120, 97, 109, 112, 108, 101, 46, 99, 111, 109,
    47, 98, 117, 99, 107, 101, 116, 45, 97, 99, 99, 101, 115, 115, 45, 99, 104, 101, 99, 107, 47, 98, 117, 99, 107, 101, 116, 45, 97, 99, 99, 101, 115, 115, 45, 99, 104, 101, 99, 107,
    47, 122, 122, 108, 97, 119, 115, 95, 114, 111, 111, 116, 95, 98, 49, 46, 70, 110, 68, 105, 103, 105, 116, 115, 65, 115, 87, 105, 108, 100, 99, 97, 114, 100, 115, 73, 100, 101,
    109, 112, 111, 116, 101, 110, 116, 32, 101, 120, 97, 109, 112, 108, 101, 46, 99, 111, 109, 47, 98, 117, 99, 107, 101, 116, 45, 97, 99, 99, 101, 115, 115, 45, 99, 104, 101, 99,
    107, 47, 98, 117, 99, 107, 101, 116, 45, 97, 99, 99, 101, 115, 115, 45, 99, 104, 101, 99, 107, 47, 122, 122, 108, 97, 119, 115, 95, 114, 111, 111, 116, 95, 98, 49, 46, 70, 110,
    68, 105, 103, 105, 116, 115, 65, 115, 87, 105, 108, 100, 99, 97, 114, 100, 115, 83, 112, 108, 105, 116, 115, 65, 116, 78, 111, 110, 68, 105, 103, 105, 116, 32, 101, 120, 97, 109,
    112, 108, 101, 46, 99, 111, 109, 47, 98, 117, 99, 107, 101, 116, 45, 97, 99, 99, 101, 115, 115, 45, 99, 104, 101, 99, 107, 47, 98, 117, 99, 107, 101, 116, 45, 97, 99, 99, 101,
    115, 115, 45, 99, 104, 101, 99, 107, 47, 122, 122, 108, 97, 119, 115, 95, 114, 111, 111, 116, 95, 98, 49, 46, 70, 110, 76, 105, 110, 101, 82, 101, 97, 100, 101, 114, 78, 101, 120,
    116, 82, 101, 116, 117, 114, 110, 115, 76, 111, 110, 103, 101, 115, 116, 78, 101, 119, 108, 105, 110, 101, 70, 114, 101, 101, 82, 117, 110, 32, 101, 120, 97, 109, 112, 108, 101,
    46, 99, 111, 109, 47, 98, 117, 99, 107, 101, 116, 45, 97, 99, 99, 101, 115, 115, 45, 99, 104, 101, 99, 107, 47, 98, 117, 99, 107, 101, 116, 45, 97, 99, 99, 101, 115, 115, 45, 99,
    104, 101, 99, 107, 47, 122, 122, 108, 97, 119, 115, 95, 114, 111, 111, 116, 95, 98, 49, 46, 70, 110, 76, 105, 110, 101, 82, 101, 97, 100, 101, 114, 76, 105, 110, 101, 115, 82,
    101, 106, 111, 105, 110, 84, 111, 84, 101, 120, 116, 32, 101, 120, 97, 109, 112, 108, 101, 46, 99, 111, 109, 47, 98, 117, 99, 107, 101, 116, 45, 97, 99, 99, 101, 115, 115, 45, 99,
    104, 101, 99, 107, 47, 98, 117, 99, 107, 101, 116, 45, 97, 99, 99, 101, 115, 115, 45, 99, 104, 101, 99, 107, 47, 122, 122, 108, 97, 119, 115, 95, 114, 111, 111, 116, 95, 98, 49,
    46, 70, 110, 68, 111, 99, 117, 109, 101, 110, 116, 83, 116, 97, 114, 116, 77, 97, 116, 99, 104, 101, 115, 77, 97, 114, 107, 101, 114, 77, 111, 100, 101, 108, 32, 101, 120, 97,
    109, 112, 108, 101, 46, 99, 111, 109, 47, 98, 117, 99, 107, 101, 116, 45, 97, 99, 99, 101, 115, 115, 45, 99, 104, 101, 99, 107, 47, 98, 117, 99, 107, 101, 116, 45, 97, 99, 99,
    101, 115, 115, 45, 99, 104, 101, 99, 107, 47, 122, 122, 108, 97, 119, 115, 95, 114, 111, 111, 116, 95, 98, 49, 46, 70, 110, 68, 111, 99, 117, 109, 101, 110, 116, 83, 116, 97, 114,
    116, 79, 118, 101, 114, 67, 111, 110, 99, 97, 116, 101, 110, 97, 116, 101, 100, 76, 105, 110, 101, 115]
theorem head_is : Try.prog.initOrder = String.ofList (w0 ++ ' ' :: (w1 ++ ' ' :: (w2 ++ ' ' :: rest))) := by kernel_rfl
theorem words_app : ∀ (w r : List Char), (w.all fun c => c != ' ') = true → wordsSigns (w ++ ' ' :: r) = w :: wordsSigns r
  | [], r, _ => rfl
  | c :: w, r, h => by
    rw [List.all_cons, Bool.and_eq_true] at h
    have ih := words_app w r h.2
    have hc : ¬ c = ' ' := by simpa using h.1
    show wordsSigns (c :: (w ++ ' ' :: r)) = _
    rw [wordsSigns, ih]
    exact hc
theorem words_are : wordsSigns Try.prog.initOrder.toList = w0 :: w1 :: w2 :: wordsSigns rest :=
  (congrArg (fun s : String => wordsSigns s.toList) head_is).trans ((congrArg wordsSigns String.toList_ofList).trans
    ((words_app w0 _ (by decide +kernel)).trans (congrArg (w0 :: ·) ((words_app w1 _ (by decide +kernel)).trans (congrArg (w1 :: ·) (words_app w2 _ (by decide +kernel)))))))
theorem behind_is : behindMainWord (wordsSigns Try.prog.initOrder.toList) = "cut".toList :: wordsSigns rest :=
  (congrArg behindMainWord words_are).trans (by kernel_rfl)

/-! ### What the words say, of whatever program -/
theorem strip_cut (r : List (List Char)) : stripLifts liftWords ("cut".toList :: r) = ([], "cut".toList :: r) := by kernel_rfl
theorem make_cut {P : Program} {r : List (List Char)} (h : behindMainWord (wordsSigns P.initOrder.toList) = "cut".toList :: r) : P.make = some .cut := by
  unfold Program.make
  rw [h]
  simp
theorem lifts_cut {P : Program} {r : List (List Char)} (h : behindMainWord (wordsSigns P.initOrder.toList) = "cut".toList :: r) : P.liftsFinal = false := by
  unfold Program.liftsFinal Program.headLifts
  rw [h, strip_cut]
  simp
theorem enter_cut {P : Program} {r : List (List Char)} (h : behindMainWord (wordsSigns P.initOrder.toList) = "cut".toList :: r) (h1 : P.laysLater = false) (h2 : P.bearsReflect = false) (h3 : P.doorFits [] = true) : P.mayEnter = true := by
  unfold Program.mayEnter
  rw [h]
  simp only [strip_cut, h1, h2, h3]
  simp
theorem none_later : Try.prog.laysLater = false := by kernel_rfl
theorem none_reflects : Try.prog.bearsReflect = false := by kernel_rfl
theorem door_fits : Try.prog.doorFits [] = true := by kernel_rfl

theorem fact1 : (Rows.fnLineReaderNextReturnsLongestNewlineFreeRunRow.wf (OpenSpec.ofChange Rows.fnLineReaderNextReturnsLongestNewlineFreeRunSpec)) = true := by kernel_rfl
theorem fact2 : (laidOutB Try.prog) = true := by kernel_rfl
theorem fact3 : (mapsRowed Try.prog) = true := by kernel_rfl
theorem fact4 : (Try.f6.params.all (Try.prog.readableRec ·)) = true := by kernel_rfl
theorem fact5 : (namedTie Try.prog Rows.fnLineReaderNextReturnsLongestNewlineFreeRunRow.named Rows.fnLineReaderNextReturnsLongestNewlineFreeRunSpec.vars) = true := by kernel_rfl
theorem fact6 : ((Rows.fnLineReaderNextReturnsLongestNewlineFreeRunRow.stops == [])) = true := by kernel_rfl
theorem fact7 : ((Try.prog.stops == [])) = true := by kernel_rfl
theorem fact8 : ((Rows.fnLineReaderNextReturnsLongestNewlineFreeRunRow.knobs == [])) = true := by kernel_rfl
theorem fact9 : ((Try.prog.stopKnobs == [])) = true := by kernel_rfl
theorem fact10 : ((Rows.fnLineReaderNextReturnsLongestNewlineFreeRunRow.inPlace == Try.prog.inPlace 6)) = true := by kernel_rfl
theorem fact11 : ((Rows.fnLineReaderNextReturnsLongestNewlineFreeRunRow.unfollowed == Try.prog.unfollowed 6)) = true := by kernel_rfl
theorem fact12 : ((Rows.fnLineReaderNextReturnsLongestNewlineFreeRunRow.recurses == Try.prog.recurses 6)) = true := by kernel_rfl
theorem fact13 : ((Rows.fnLineReaderNextReturnsLongestNewlineFreeRunRow.named == Try.prog.varsNamed 6)) = true := by kernel_rfl
theorem fact14 : ((Rows.fnLineReaderNextReturnsLongestNewlineFreeRunRow.maps == (Try.f6.params.toList ++ Rows.fnLineReaderNextReturnsLongestNewlineFreeRunSpec.plain.varTypes Try.prog).any (Try.prog.mapsRec ·))) = true := by kernel_rfl
theorem fact15 : ((Rows.fnLineReaderNextReturnsLongestNewlineFreeRunRow.ifaces == (Try.f6.params.toList ++ Rows.fnLineReaderNextReturnsLongestNewlineFreeRunSpec.plain.varTypes Try.prog).any (Try.prog.ifacesRec ·))) = true := by kernel_rfl
theorem fact16 : ((Rows.fnLineReaderNextReturnsLongestNewlineFreeRunRow.mapsOut == Try.prog.mapsAmong Try.f6.resultTypes.toList)) = true := by kernel_rfl
theorem fact17 : ((Rows.fnLineReaderNextReturnsLongestNewlineFreeRunRow.loops == (Try.f6.params.toList ++ Rows.fnLineReaderNextReturnsLongestNewlineFreeRunSpec.plain.varTypes Try.prog).any (Try.prog.loopsFrom ·))) = true := by kernel_rfl
theorem fact18 : ((Rows.fnLineReaderNextReturnsLongestNewlineFreeRunRow.wideKeys == (Try.f6.params.toList ++ Rows.fnLineReaderNextReturnsLongestNewlineFreeRunSpec.plain.varTypes Try.prog ++ Try.f6.resultTypes.toList).any (Try.prog.wideKeysFrom ·))) = true := by kernel_rfl
theorem fact19 : (Rows.fnLineReaderNextReturnsLongestNewlineFreeRunSpec.vars.all (Try.prog.varReadable ·)) = true := by kernel_rfl
theorem fact20 : (Try.f6.resultTypes.all (fun t => Try.prog.readableRec t && decide (t < Try.prog.types.size))) = true := by kernel_rfl
theorem fact21 : ((Rows.fnLineReaderNextReturnsLongestNewlineFreeRunRow.ifacesOut == Try.f6.resultTypes.toList.any (Try.prog.ifacesRec ·))) = true := by kernel_rfl
theorem fact22 : ((Rows.fnLineReaderNextReturnsLongestNewlineFreeRunRow.loopsOut == Try.f6.resultTypes.toList.any (Try.prog.loopsFrom ·))) = true := by kernel_rfl
theorem fact23 : ((Rows.fnLineReaderNextReturnsLongestNewlineFreeRunRow.plainKeys == Try.prog.plainKeys)) = true := by kernel_rfl
theorem fact24 : (Rows.fnLineReaderNextReturnsLongestNewlineFreeRunRow.shortTexts.isNone) = true := by kernel_rfl
theorem fact25 : (Try.prog.stopsHeard) = true := by kernel_rfl
theorem fact26 : (Try.prog.mayEnter) = true := enter_cut behind_is none_later none_reflects door_fits
theorem fact27 : ((Rows.fnLineReaderNextReturnsLongestNewlineFreeRunRow.lifted == Try.prog.liftsFinal)) = true := by rw [lifts_cut behind_is]; kernel_rfl
theorem fact28 : ((Try.prog.make == some Rows.fnLineReaderNextReturnsLongestNewlineFreeRunRow.make)) = true := by rw [make_cut behind_is]; kernel_rfl
theorem fact29 : ((Rows.fnLineReaderNextReturnsLongestNewlineFreeRunRow.kinds == (if Rows.fnLineReaderNextReturnsLongestNewlineFreeRunRow.domain.isEmpty then [] else Try.f6.params.toList.map fun t => match Try.prog.underlying t with | some (.int k) => some k | _ => none))) = true := by kernel_rfl
theorem fact30 : ((Rows.fnLineReaderNextReturnsLongestNewlineFreeRunRow.pinned == Rows.fnLineReaderNextReturnsLongestNewlineFreeRunRow.pinnedBy)) = true := by kernel_rfl
theorem fact31 : ((Rows.fnLineReaderNextReturnsLongestNewlineFreeRunRow.veiled == (Try.f6.params.toList ++ Rows.fnLineReaderNextReturnsLongestNewlineFreeRunSpec.plain.varTypes Try.prog ++ Try.f6.resultTypes.toList).any (Try.prog.veiledRec ·))) = true := by kernel_rfl
theorem fact32 : (Rows.fnLineReaderNextReturnsLongestNewlineFreeRunRow.veiledFits Try.prog Try.f6.params.toList (Try.f6.params.toList ++ Rows.fnLineReaderNextReturnsLongestNewlineFreeRunSpec.plain.varTypes Try.prog ++ Try.f6.resultTypes.toList)) = true := by kernel_rfl
theorem both {a b : Bool} (ha : a = true) (hb : b = true) : (a && b) = true := by rw [ha, hb]; rfl
theorem closed : joinedFacts Try.prog 6 Try.f6 Rows.fnLineReaderNextReturnsLongestNewlineFreeRunSpec Rows.fnLineReaderNextReturnsLongestNewlineFreeRunRow = true :=
  both (both (both (both (both (both (both (both (both (both (both (both (both (both (both (both (both (both (both (both (both (both (both (both (both (both (both (both (both (both (both (fact1) fact2) fact3) fact4) fact5) fact6) fact7) fact8) fact9) fact10) fact11) fact12) fact13) fact14) fact15) fact16) fact17) fact18) fact19) fact20) fact21) fact22) fact23) fact24) fact25) fact26) fact27) fact28) fact29) fact30) fact31) fact32
end Go.Proofs.Qxb6602462a.fnLineReaderNextReturnsLongestNewlineFreeRun
