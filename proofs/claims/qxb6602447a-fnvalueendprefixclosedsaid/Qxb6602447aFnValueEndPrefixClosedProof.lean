/-
  THE PROOF OF Rows.FnValueEndPrefixClosedSaid: the guide's shell (proof-skeleton.mjs) with the walk filled.
-/
import Derived.Test.Qxb6602447aRows
import Derived.WalkKit
import Derived.ProofKit
import Derived.OpenShut
import Derived.ShutString
import Derived.ChangeOld
import Derived.Below
import Derived.Test.Qxb6602447aWalkG
import Derived.Test.Qxb6602447aFactsB
namespace Go.Proofs.Qxb6602447a.fnValueEndPrefixClosed
open Go.ChangeShapes Go.WideShapes Go.ChangeAt Go.RowKit
open Go.ChangeMaps (open_string shut_string)
open Pl
set_option linter.unusedVariables false

theorem own : ownKnob Try.prog.godebug = none := by kernel_rfl
theorem laidOut : laidOutB Try.prog = true := by kernel_rfl

/-- WHAT THE WALK IS TOLD OF A SLICE OF INTEGERS THAT CAME IN: it is nil; or it leads to a row of 'cap' cells, the numbers 'zs' (the first 'len' are its elements, the rest its spare room), each fitting its kind. -/
def IsRow (k : IntKind) (w : World) (a : Option Addr) (len cap : Nat) (zs : List Int) : Prop :=
  (a = none ∧ len = 0 ∧ cap = 0 ∧ zs = []) ∨
  ∃ x, a = some x ∧ len ≤ cap ∧ cap ≤ maxLen ∧ zs.length = cap ∧ (∀ i, i < zs.length → w.cell? (x.add i) = some (.int k (zs.getD i 0))) ∧ ∀ n ∈ zs, (Lit.int k n).wf = true

theorem len_of {w : World} {a : Option Addr} {len cap : Nat} {zs : List Int} (h : IsRow .u8 w a len cap zs) : len ≤ maxLen := by
  rcases h with ⟨_, h, _⟩ | ⟨x, _, h1, h2, _⟩ <;> omega
theorem cap_of {w : World} {a : Option Addr} {len cap : Nat} {zs : List Int} (h : IsRow .u8 w a len cap zs) : a = none → cap = 0 := by
  rcases h with ⟨_, _, h, _⟩ | ⟨x, h, _⟩
  · exact fun _ => h
  · intro h'; rw [h] at h'; cases h'
theorem src_of {w : World} {a : Option Addr} {len cap : Nat} {zs : List Int} (h : IsRow .u8 w a len cap zs) : Src w a len (zs.take len) := by
  rcases h with ⟨rfl, rfl, rfl, rfl⟩ | ⟨x, rfl, hlc, hcm, hzl, hcell, hwf⟩
  · exact ⟨rfl, fun _ => rfl, fun ad h => by cases h⟩
  · refine ⟨by rw [List.length_take]; omega, fun h => (by cases h), fun ad h j hj => ?_⟩
    obtain rfl := Option.some.inj h
    rw [hcell j (by omega)]; unfold el; simp [hj]
theorem byt_row {w : World} {a : Option Addr} {len cap : Nat} {zs : List Int} (h : IsRow .u8 w a len cap zs) : Byt (zs.take len) := by
  rcases h with ⟨rfl, rfl, rfl, rfl⟩ | ⟨x, rfl, hlc, hcm, hzl, hcell, hwf⟩
  · exact byt_of _ fun n hn => by cases hn
  · exact byt_of _ fun n hn => hwf n (List.mem_of_mem_take hn)

/-! ### STEP 1: THE WALK: the Go text returns true, AND WRITES NOTHING THAT WAS THERE: 'Below w.heap.size w w'' (Derived/Below.lean: '.refl', '.alloc', '.drew', '.setCell' at a new block, '.trans'). Open each 'IsRow' by 'rcases' AHEAD of 'go_enter'; part every test ahead of the walk. -/
theorem walk (a0 : Option Addr) (len0 cap0 : Nat) (z0 : List Int) (a1 : Int) (a2 : Option Addr) (len2 cap2 : Nat) (z2 : List Int) (w : World) (w0 : IsRow .u8 w a0 len0 cap0 z0) (w1 : (Lit.int .i64 a1).wf = true) (w2 : IsRow .u8 w a2 len2 cap2 z2) :
    Calls Try.prog 5 #[.slice a0 len0 cap0, .int .i64 a1, .slice a2 len2 cap2] w fun e w' => e = .returned (.bool true) ∧ Below w.heap.size w w' := by
  have bi := bounds_i64 w1
  have s2 := src_of w2
  have m0 := len_of w0
  have m2 := len_of w2
  have c2 := cap_of w2
  by_cases hsum : 1048576 < len0 + len2
  · go_enter Try.func5, Try.ntmps5
    go_wp2_with (go_at_call 14; refine (zb14_no _ _ _ _ _ _ _ _ m0 m2 hsum).mono ?_; rintro e w' ⟨rfl, rfl⟩)
    go_ret
    exact ⟨rfl, Below.refl _ _⟩
  have hsum' : len0 + len2 ≤ 1048576 := by omega
  clear hsum m0 m2
  by_cases hlen : 524288 < len0
  · go_enter Try.func5, Try.ntmps5
    go_wp2_with (go_at_call 14; refine (zb14_yes _ _ _ _ _ _ _ _ hsum').mono ?_; rintro e w' ⟨rfl, rfl⟩)
    go_ret
    exact ⟨rfl, Below.refl _ _⟩
  by_cases hlen2 : 524288 < len2
  · go_enter Try.func5, Try.ntmps5
    go_wp2_with (go_at_call 14; refine (zb14_yes _ _ _ _ _ _ _ _ hsum').mono ?_; rintro e w' ⟨rfl, rfl⟩)
    go_ret
    exact ⟨rfl, Below.refl _ _⟩
  by_cases hneg : a1 < 0
  · go_enter Try.func5, Try.ntmps5
    go_wp2_with (go_at_call 14; refine (zb14_yes _ _ _ _ _ _ _ _ hsum').mono ?_; rintro e w' ⟨rfl, rfl⟩)
    go_ret
    exact ⟨rfl, Below.refl _ _⟩
  by_cases hbig : (len0 : Int) < a1
  · go_enter Try.func5, Try.ntmps5
    go_wp2_with (go_at_call 14; refine (zb14_yes _ _ _ _ _ _ _ _ hsum').mono ?_; rintro e w' ⟨rfl, rfl⟩)
    go_ret
    exact ⟨rfl, Below.refl _ _⟩
  obtain ⟨i, rfl⟩ : ∃ i : Nat, a1 = i := ⟨a1.toNat, by omega⟩
  have hi : i ≤ len0 := by omega
  by_cases hz : len0 = 0
  · subst hz
    obtain rfl : i = 0 := by omega
    exact pc_empty a0 a2 cap0 len2 cap2 _ _ w (by omega) (cap_of w0) c2 (src_of w0) s2
  rcases w0 with ⟨_, h, _⟩ | ⟨x, rfl, hlc, hcm, hzl, hcell, hwf⟩
  · omega
  obtain ⟨b, off, rfl, hc⟩ := ints_at hcell (by omega)
  have hd : Dat w b off len0 (z0.take len0) := ⟨by rw [List.length_take]; omega, fun j hj => by
    rw [hc j (by omega)]; unfold el; simp [hj]⟩
  have hb : Byt (z0.take len0) := byt_of _ fun n hn => hwf n (List.mem_of_mem_take hn)
  have hb2 : Byt (z2.take len2) := byt_row w2
  rcases at_start (z0.take len0) 0 i (by rw [hd.1]; omega) with hv | hv
  · exact pc_none a2 b off len0 cap0 i len2 cap2 _ _ w (by omega) (by omega) hi (by omega) c2 hd hb s2 hv
  · obtain ⟨e, he⟩ : ∃ e : Nat, at_ (z0.take len0) 0 0 i = e := ⟨(at_ (z0.take len0) 0 0 i).toNat, by omega⟩
    obtain ⟨p1, p2, p3, p4⟩ := prefix_law _ i e (by rw [hd.1]; omega) he
    rw [hd.1] at p2
    by_cases hq : el (z0.take len0) i = 34 ∨ el (z0.take len0) i = 123 ∨ el (z0.take len0) i = 91
    · refine pc_join a2 b off len0 cap0 i len2 cap2 e _ _ w (by omega) (by omega) (by omega) c2 hd hb hb2 s2 p1 p2 he p3 (p4 hq _) ?_
      simp only [bne_iff_ne, ne_eq, bne_eq_false_iff_eq]
      omega
    · exact pc_lit a2 b off len0 cap0 i len2 cap2 e _ _ w (by omega) (by omega) (by omega) c2 hd hb s2 p1 p2 he p3 (by simp only [bne_iff_ne]; omega) (by simp only [bne_iff_ne]; omega) (by simp only [bne_iff_ne]; omega)

/-! ### THE ROW's STEP: WRITTEN OUT: LEAVE IT -/
set_option maxRecDepth 100000 in
theorem lifted (os : Os) (started : os.Started) (H : Type) (enc : TypeId × Value → H) :
    ReturnsInHanded {} Try.checked os 5 .any (Rows.fnValueEndPrefixClosedSpec.pre6 enc Try.prog Try.f5 Rows.fnValueEndPrefixClosedRow.domain false) (Rows.fnValueEndPrefixClosedSpec.post enc Try.prog Try.f5 false true false false) := by
  refine returnsInHanded_of_change (C := Try.checked) own started (by kernel_rfl) Try.func5
    (ChangeSpec.witness6 (enc := enc) (C := Try.checked) false ⟨#[], #[.slice none 0 0, .int .i64 0, .slice none 0 0], []⟩ 8 (by kernel_rfl) (by kernel_rfl) (by kernel_rfl) (by kernel_rfl)) ?_
  intro W base args ds gs before hval0 hW hcnd _
  have hval : ∀ (j : Nat) t v, Try.f5.params[j]? = some t → args[j]? = some v → Value.okWide Try.prog W .any base t v := hval0
  have hW' := hW
  obtain ⟨p, q, hA0, hV, rfl, hfz, hnd⟩ := hW
  have hA : DataW.TrodAll enc Try.prog W 0 (fun _ => true) true Try.f5.params.toList args.toList ds p := hA0
  rw [Try.params5] at hA hval
  obtain ⟨v0, vs0, d0, ds0, p0, q0, hargs, rfl, rfl, h0, r0⟩ := trodAll_cons hA
  obtain ⟨v1, vs1, d1, ds1, p1, q1, rfl, rfl, rfl, h1, r1⟩ := trodAll_cons r0
  obtain ⟨v2, vs2, d2, ds2, p2, q2, rfl, rfl, rfl, h2, r2⟩ := trodAll_cons r1
  obtain ⟨rfl, rfl, rfl⟩ := trodAll_nil r2
  obtain rfl : args = #[v0, v1, v2] := by cases args; simp_all
  obtain ⟨rfl, rfl⟩ := trodVars_none hV
  obtain ⟨a0, len0, cap0, rfl⟩ := okWide_slice Try.underlying22 (hval 0 22 v0 rfl rfl)
  have k0 := h0
  have lt0 : ∀ x ∈ p0, x.block < W.heap.size := by obtain ⟨m, hm⟩ := k0; exact DataW.trod_lt m _ _ _ hm
  obtain ⟨z0, w0⟩ : ∃ zs, IsRow .u8 W a0 len0 cap0 zs := by
    obtain ⟨fuel, hf⟩ := h0
    rcases open_ints Try.underlying22 Try.underlying5 (by kernel_rfl) hf with ⟨hcs, _⟩ | ⟨x, l, c, zs, hcs, _, hl, hm, hz, _, hcell, hwz⟩
    · simp [Value.cells] at hcs
      obtain ⟨rfl, rfl, rfl⟩ := hcs
      exact ⟨[], .inl ⟨rfl, rfl, rfl, rfl⟩⟩
    · simp [Value.cells] at hcs
      obtain ⟨rfl, rfl, rfl⟩ := hcs
      exact ⟨zs, .inr ⟨_, rfl, hl, hm, by simpa using hz, hcell, hwz⟩⟩
  obtain ⟨a1, rfl, rfl, rfl, w1⟩ := open_int Try.underlying3 (hval 1 3 v1 rfl rfl) h1
  obtain ⟨a2, len2, cap2, rfl⟩ := okWide_slice Try.underlying22 (hval 2 22 v2 rfl rfl)
  have k2 := h2
  have lt2 : ∀ x ∈ p2, x.block < W.heap.size := by obtain ⟨m, hm⟩ := k2; exact DataW.trod_lt m _ _ _ hm
  obtain ⟨z2, w2⟩ : ∃ zs, IsRow .u8 W a2 len2 cap2 zs := by
    obtain ⟨fuel, hf⟩ := h2
    rcases open_ints Try.underlying22 Try.underlying5 (by kernel_rfl) hf with ⟨hcs, _⟩ | ⟨x, l, c, zs, hcs, _, hl, hm, hz, _, hcell, hwz⟩
    · simp [Value.cells] at hcs
      obtain ⟨rfl, rfl, rfl⟩ := hcs
      exact ⟨[], .inl ⟨rfl, rfl, rfl, rfl⟩⟩
    · simp [Value.cells] at hcs
      obtain ⟨rfl, rfl, rfl⟩ := hcs
      exact ⟨zs, .inr ⟨_, rfl, hl, hm, by simpa using hz, hcell, hwz⟩⟩
  clear hA0 hval0
  refine (walk a0 len0 cap0 z0 a1 a2 len2 cap2 z2 W w0 w1 w2).mono fun e W' ⟨he, bel⟩ => ?_
  subst he
  exact ⟨_, rfl, _, _, _, [], _, [], hW', trodAll_mk1 (shut_bool Try.underlying4 _), (trodAll_cons_mk (Below.trod laidOut (by kernel_rfl) (of_decide_eq_true (by kernel_rfl)) k0 bel lt0) (trodAll_cons_mk (shut_int Try.underlying3 w1) (trodAll_cons_mk (Below.trod laidOut (by kernel_rfl) (of_decide_eq_true (by kernel_rfl)) k2 bel lt2) trodAll_mk0))), rfl, bel.frame _, fun h => by cases h⟩

theorem over : Rows.fnValueEndPrefixClosedRow.holds Try.pinned (OpenSpec.ofChange Rows.fnValueEndPrefixClosedSpec) :=
  OpenClaim.holds_of_wide 5 Try.f5 rfl rfl rfl rfl rfl rfl rfl ⟨rfl, rfl, rfl, rfl, rfl⟩ rfl rfl rfl rfl rfl (by kernel_rfl) Try.func5 closed
    (of_decide_eq_true (by kernel_rfl)) (by unfold Func.isWrapper; first | (rw [if_pos (by decide +kernel)]; kernel_rfl) | (rw [if_neg (by decide +kernel)]; exact ⟨rfl, rfl⟩))
    (fun os started H enc _ => lifted os started H enc)

/-- ████ THE STATEMENT ████ -/
theorem proved : Rows.FnValueEndPrefixClosedSaid := over
#print axioms proved
end Go.Proofs.Qxb6602447a.fnValueEndPrefixClosed
