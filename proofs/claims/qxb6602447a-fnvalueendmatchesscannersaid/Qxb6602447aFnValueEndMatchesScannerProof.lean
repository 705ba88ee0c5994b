/-
  THE PROOF OF Rows.FnValueEndMatchesScannerSaid: the guide's shell (proof-skeleton.mjs) with the walk filled.
-/
import Derived.Test.Qxb6602447aRows
import Derived.WalkKit
import Derived.ProofKit
import Derived.OpenShut
import Derived.ShutString
import Derived.ChangeOld
import Derived.Below
import Derived.Test.Qxb6602447aWalkH
import Derived.Test.Qxb6602447aFactsC
namespace Go.Proofs.Qxb6602447a.fnValueEndMatchesScanner
open Go.ChangeShapes Go.WideShapes Go.ChangeAt Go.RowKit
open Go.ChangeMaps (open_string shut_string)
open Pl
set_option linter.unusedVariables false

theorem own : ownKnob Try.prog.godebug = none := by kernel_rfl
theorem laidOut : laidOutB Try.prog = true := by kernel_rfl

/-- WHAT THE WALK IS TOLD OF A SLICE OF INTEGERS THAT CAME IN: it is nil; or it leads to a row of 'cap' cells, the numbers 'zs' (the first 'len' are its elements, the rest its spare room), each fitting its kind. -/
def IsRow (k : IntKind) (w : World) (a : Option Addr) (len cap : Nat) (zs : List Int) : Prop :=
  (a = none ∧ len = 0 ∧ cap = 0 ∧ zs = []) ∨
  ∃ x, a = some x ∧ len ≤ cap ∧ cap ≤ maxLen ∧ zs.length = cap ∧ (∀ i, i < zs.length → w.cell? (x.add i) = some (.int k (zs.getD i 0))) ∧ ∀ n ∈ zs, (Lit.int k n).wf = true

theorem walk_nil (i : Nat) (hi : i ≤ 0) (w : World) : Calls Try.prog 3 #[.slice none 0 0, .int .i64 i] w fun e w' => e = .returned (.bool true) ∧ Below w.heap.size w w' := by
  obtain rfl : i = 0 := by omega
  go_enter Try.func3, Try.ntmps3
  go_wp2_with fail
  refine (zb9_yes _ _ _ _ _ (by omega)).mono ?_
  rintro e w' ⟨rfl, rfl⟩
  go_wp2_with fail
  refine (clone_nil _).mono ?_
  rintro e w' ⟨rfl, rfl⟩
  go_wp2_with fail
  refine (zz_zero _ _ _).mono ?_
  rintro e w' ⟨rfl, rfl⟩
  go_wp2_with fail
  refine (model_zero _ _ _).mono ?_
  rintro e w' ⟨rfl, rfl⟩
  go_wp2
  go_ret
  exact ⟨rfl, Below.refl _ _⟩

theorem walk_empty (x : Addr) (cap0 i : Nat) (hi : i ≤ 0) (w : World) : Calls Try.prog 3 #[.slice (some x) 0 cap0, .int .i64 i] w fun e w' => e = .returned (.bool true) ∧ Below w.heap.size w w' := by
  obtain rfl : i = 0 := by omega
  go_enter Try.func3, Try.ntmps3
  go_wp2_with fail
  refine (zb9_yes _ _ _ _ _ (by omega)).mono ?_
  rintro e w' ⟨rfl, rfl⟩
  go_wp2_with fail
  refine (clone_empty _ _ _).mono ?_
  rintro e w1 ⟨rfl, hbel⟩
  go_wp2_with fail
  refine (zz_zero _ _ _).mono ?_
  rintro e w' ⟨rfl, rfl⟩
  go_wp2_with fail
  refine (model_zero _ _ _).mono ?_
  rintro e w' ⟨rfl, rfl⟩
  go_wp2
  go_ret
  exact ⟨rfl, hbel⟩

set_option maxHeartbeats 400000 in
theorem walk_some (b off n c i : Nat) (xs : List Int) (w : World) (hn : n ≤ 1048576) (h0 : 0 < n) (hi : i ≤ n) (hd : Dat w b off n xs) (hb : Byt xs) :
    Calls Try.prog 3 #[.slice (some ⟨b, off, none⟩) n c, .int .i64 i] w fun e w' => e = .returned (.bool true) ∧ Below w.heap.size w w' := by
  have Z1 : Hid (∀ w', Dat w' w.heap.size 0 n xs → Calls Try.prog 11 #[.slice (some ⟨w.heap.size, 0, none⟩) n n, .int .i64 i] w' fun e w'' => e = .returned (.int .i64 (at_ xs 0 0 i)) ∧ ∃ m, w'' = w'.drewN m) :=
    fun w' h => zz_any w.heap.size 0 n n i xs w' hn (by omega) h hb
  have Z2 : Hid (∀ w', Dat w' w.heap.size 0 n xs → Calls Try.prog 12 #[.slice (some ⟨w.heap.size, 0, none⟩) n n, .int .i64 i] w' fun e w'' => e = .returned (.int .i64 (at_ xs 0 0 i)) ∧ w'' = w') :=
    fun w' h => model_any w.heap.size 0 n n i xs w' hn (by omega) h
  obtain ⟨W, hW⟩ : ∃ W, at_ xs 0 0 i = W := ⟨_, rfl⟩
  rw [hW] at Z1 Z2
  clear hW hb
  go_enter Try.func3, Try.ntmps3
  go_wp2_with fail
  refine (zb9_yes _ _ _ _ _ hn).mono ?_
  rintro e w' ⟨rfl, hw⟩
  rw [hw]
  clear hw
  go_wp2_with fail
  refine (clone_some b off n c xs _ hn h0 hd).mono ?_
  rintro e w1 ⟨rfl, hrow, hbel⟩
  have HD : Hid (Dat w1 w.heap.size 0 n xs) := dat_of_row hrow hd.1
  have HB : Hid (Below w.heap.size w w1) := hbel
  clear hrow hbel
  go_wp2_with fail
  refine (Z1.out _ HD.out).mono ?_
  rintro e w2 ⟨rfl, m, rfl⟩
  go_wp2_with fail
  refine (Z2.out _ (dat_drewN HD.out)).mono ?_
  rintro e w2 ⟨rfl, hw⟩
  rw [hw]
  clear hw
  go_wp2
  go_ret
  exact ⟨by first | rfl | simp, below_drewN HB.out⟩

/-! ### STEP 1: THE WALK: the Go text returns true, AND WRITES NOTHING THAT WAS THERE: 'Below w.heap.size w w'' (Derived/Below.lean: '.refl', '.alloc', '.drew', '.setCell' at a new block, '.trans'). Open each 'IsRow' by 'rcases' AHEAD of 'go_enter'; part every test ahead of the walk. -/
theorem walk (a0 : Option Addr) (len0 cap0 : Nat) (z0 : List Int) (a1 : Int) (w : World) (w0 : IsRow .u8 w a0 len0 cap0 z0) (w1 : (Lit.int .i64 a1).wf = true) :
    Calls Try.prog 3 #[.slice a0 len0 cap0, .int .i64 a1] w fun e w' => e = .returned (.bool true) ∧ Below w.heap.size w w' := by
  have bi := bounds_i64 w1
  by_cases hlen : 1048576 < len0
  · go_enter Try.func3, Try.ntmps3
    go_wp2_with (go_at_call 9; refine (zb9_no _ _ _ _ _ hlen).mono ?_; rintro e w' ⟨rfl, rfl⟩)
    go_ret
    exact ⟨rfl, Below.refl _ _⟩
  have hlen' : len0 ≤ 1048576 := by omega
  by_cases hneg : a1 < 0
  · go_enter Try.func3, Try.ntmps3
    go_wp2_with (go_at_call 9; refine (zb9_yes _ _ _ _ _ hlen').mono ?_; rintro e w' ⟨rfl, rfl⟩)
    go_ret
    exact ⟨rfl, Below.refl _ _⟩
  by_cases hbig : (len0 : Int) < a1
  · go_enter Try.func3, Try.ntmps3
    go_wp2_with (go_at_call 9; refine (zb9_yes _ _ _ _ _ hlen').mono ?_; rintro e w' ⟨rfl, rfl⟩)
    go_ret
    exact ⟨rfl, Below.refl _ _⟩
  obtain ⟨i, rfl⟩ : ∃ i : Nat, a1 = i := ⟨a1.toNat, by omega⟩
  have hi : i ≤ len0 := by omega
  clear bi w1 hneg hbig hlen
  rcases w0 with ⟨rfl, rfl, rfl, rfl⟩ | ⟨x, rfl, hlc, hcm, hzl, hcell, hwf⟩
  · exact walk_nil i hi w
  · by_cases h0 : len0 = 0
    · subst h0
      exact walk_empty x cap0 i hi w
    · obtain ⟨b, off, rfl, hc⟩ := ints_at hcell (by omega)
      have hd : Dat w b off len0 (z0.take len0) := ⟨by rw [List.length_take]; omega, fun j hj => by
        rw [hc j (by omega)]; unfold el; simp [hj]⟩
      have hb : Byt (z0.take len0) := byt_of _ fun n hn => hwf n (List.mem_of_mem_take hn)
      exact walk_some b off len0 cap0 i (z0.take len0) w hlen' (by omega) hi hd hb

/-! ### THE ROW's STEP: WRITTEN OUT: LEAVE IT -/
set_option maxRecDepth 100000 in
theorem lifted (os : Os) (started : os.Started) (H : Type) (enc : TypeId × Value → H) :
    ReturnsInHanded {} Try.checked os 3 .any (Rows.fnValueEndMatchesScannerSpec.pre6 enc Try.prog Try.f3 Rows.fnValueEndMatchesScannerRow.domain false) (Rows.fnValueEndMatchesScannerSpec.post enc Try.prog Try.f3 false true false false) := by
  refine returnsInHanded_of_change (C := Try.checked) own started (by kernel_rfl) Try.func3
    (ChangeSpec.witness6 (enc := enc) (C := Try.checked) false ⟨#[], #[.slice none 0 0, .int .i64 0], []⟩ 8 (by kernel_rfl) (by kernel_rfl) (by kernel_rfl) (by kernel_rfl)) ?_
  intro W base args ds gs before hval0 hW hcnd _
  have hval : ∀ (j : Nat) t v, Try.f3.params[j]? = some t → args[j]? = some v → Value.okWide Try.prog W .any base t v := hval0
  have hW' := hW
  obtain ⟨p, q, hA0, hV, rfl, hfz, hnd⟩ := hW
  have hA : DataW.TrodAll enc Try.prog W 0 (fun _ => true) true Try.f3.params.toList args.toList ds p := hA0
  rw [Try.params3] at hA hval
  obtain ⟨v0, vs0, d0, ds0, p0, q0, hargs, rfl, rfl, h0, r0⟩ := trodAll_cons hA
  obtain ⟨v1, vs1, d1, ds1, p1, q1, rfl, rfl, rfl, h1, r1⟩ := trodAll_cons r0
  obtain ⟨rfl, rfl, rfl⟩ := trodAll_nil r1
  obtain rfl : args = #[v0, v1] := by cases args; simp_all
  obtain ⟨rfl, rfl⟩ := trodVars_none hV
  obtain ⟨a0, len0, cap0, rfl⟩ := okWide_slice Try.underlying22 (hval 0 22 v0 rfl rfl)
  have k0 := h0
  have lt0 : ∀ x ∈ p0, x.block < W.heap.size := by obtain ⟨m, hm⟩ := k0; exact DataW.trod_lt m _ _ _ hm
  obtain ⟨z0, w0⟩ : ∃ zs, IsRow .u8 W a0 len0 cap0 zs := by
    obtain ⟨fuel, hf⟩ := h0
    rcases open_ints Try.underlying22 Try.underlying5 (by kernel_rfl) hf with ⟨hcs, _⟩ | ⟨x, l, c, zs, hcs, _, hl, hm, hz, _, hcell, hwz⟩
    · simp [Value.cells] at hcs
      obtain ⟨rfl, rfl, rfl⟩ := hcs
      exact ⟨[], .inl ⟨rfl, rfl, rfl, rfl⟩⟩
    · simp [Value.cells] at hcs
      obtain ⟨rfl, rfl, rfl⟩ := hcs
      exact ⟨zs, .inr ⟨_, rfl, hl, hm, by simpa using hz, hcell, hwz⟩⟩
  obtain ⟨a1, rfl, rfl, rfl, w1⟩ := open_int Try.underlying3 (hval 1 3 v1 rfl rfl) h1
  clear hA0 hval0
  refine (walk a0 len0 cap0 z0 a1 W w0 w1).mono fun e W' ⟨he, bel⟩ => ?_
  subst he
  exact ⟨_, rfl, _, _, _, [], _, [], hW', trodAll_mk1 (shut_bool Try.underlying4 _), (trodAll_cons_mk (Below.trod laidOut (by kernel_rfl) (of_decide_eq_true (by kernel_rfl)) k0 bel lt0) (trodAll_cons_mk (shut_int Try.underlying3 w1) trodAll_mk0)), rfl, bel.frame _, fun h => by cases h⟩

theorem over : Rows.fnValueEndMatchesScannerRow.holds Try.pinned (OpenSpec.ofChange Rows.fnValueEndMatchesScannerSpec) :=
  OpenClaim.holds_of_wide 3 Try.f3 rfl rfl rfl rfl rfl rfl rfl ⟨rfl, rfl, rfl, rfl, rfl⟩ rfl rfl rfl rfl rfl (by kernel_rfl) Try.func3 closed
    (of_decide_eq_true (by kernel_rfl)) (by unfold Func.isWrapper; first | (rw [if_pos (by decide +kernel)]; kernel_rfl) | (rw [if_neg (by decide +kernel)]; exact ⟨rfl, rfl⟩))
    (fun os started H enc _ => lifted os started H enc)

/-- ████ THE STATEMENT ████ -/
theorem proved : Rows.FnValueEndMatchesScannerSaid := over
#print axioms proved
end Go.Proofs.Qxb6602447a.fnValueEndMatchesScanner
