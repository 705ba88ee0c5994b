/-
  THE WALKS of seat b6602447a, second part: strings.ContainsRune at the bytes that end a literal.
-/
import Derived.Test.Qxb6602447aWalkA
import Derived.Lib.Bytealg
import Derived.WalkMore
import Derived.BigQuiet
import Derived.Deep.QuietTactic
namespace Go.Proofs.Qxb6602447a
open Go.RowKit Pl

set_option maxHeartbeats 400000 in
theorem ib_inner (s : ByteArray) (c : Int) (w : World) :
    Calls Try.prog 37 #[.string s, .int .u8 c] w fun e w' => e = .returned (.int .i64 (firstIdx s c.toNat.toUInt8)) ∧ w' = w := by
  go_enter Try.func37, Try.ntmps37
  go_wp2
  rw [run_callFunc_extern Try.func38 (by kernel_rfl) (by kernel_rfl) (by kernel_rfl) (e := Extern.BytealgIndexByte.indexByte) (by kernel_rfl), run_indexByte_string]
  simp only [Result.andThen]
  rw [Oper.upon_value]
  go_wp2
  go_ret
  exact ⟨rfl, rfl⟩

set_option maxHeartbeats 400000 in
theorem ib_any (s : ByteArray) (c : Int) (w : World) :
    Calls Try.prog 33 #[.string s, .int .u8 c] w fun e w' => e = .returned (.int .i64 (firstIdx s c.toNat.toUInt8)) ∧ w' = w := by
  go_enter Try.func33, Try.ntmps33
  go_wp2_with (go_at_call 37; refine (ib_inner _ _ _).mono ?_; rintro e w' ⟨rfl, rfl⟩)
  go_ret
  exact ⟨rfl, rfl⟩

set_option maxHeartbeats 400000 in
set_option maxRecDepth 100000 in
theorem ir_ascii (s : ByteArray) (r : Int) (w : World) (h0 : 0 ≤ r) (h1 : r < 128) :
    Calls Try.prog 32 #[.string s, .int .i32 r] w fun e w' => e = .returned (.int .i64 (firstIdx s r.toNat.toUInt8)) ∧ w' = w := by
  go_enter Try.func32, Try.ntmps32
  go_wp2_with (go_at_call 33; refine (ib_any _ _ _).mono ?_; rintro e w' ⟨rfl, rfl⟩)
  go_ret
  exact ⟨rfl, rfl⟩

/-- The bytes that end a bare literal, as the Go text writes them. -/
abbrev stops : ByteArray := { data := #[44, 125, 93, 32, 9, 13, 10] }

set_option maxHeartbeats 400000 in
set_option maxRecDepth 100000 in
theorem vr_any (r : Int) (w : World) (h0 : 128 ≤ r) (h1 : r < 256) :
    Calls Try.prog 34 #[.int .i32 r] w fun e w' => e = .returned (.bool true) ∧ w' = w := by
  go_enter Try.func34, Try.ntmps34
  go_wp2
  go_ret
  exact ⟨rfl, rfl⟩

theorem enc_two (r : Int) (h0 : 128 ≤ r) (h1 : r < 256) : ∃ rs : ByteArray, Utf8.encode r = rs ∧ rs.size = 2 ∧ ∀ h : 1 < rs.size, 128 ≤ (rs[1]'h).toNat := by
  have hv : Utf8.valid r = true := by rw [validRune_eq]; unfold validRune; exact decide_eq_true (by omega)
  refine ⟨_, rfl, ?_⟩
  have hc : ¬ r.toNat < 128 := by omega
  have hc2 : r.toNat < 2048 := by omega
  unfold Utf8.encode
  simp only [hv, if_true, hc, if_false, hc2]
  refine ⟨rfl, fun _ => ?_⟩
  show 128 ≤ (UInt8.ofNat (128 + r.toNat % 64)).toNat
  simp; omega

set_option maxHeartbeats 400000 in
set_option maxRecDepth 100000 in
theorem ir_wide (r : Int) (w : World) (h0 : 128 ≤ r) (h1 : r < 256) :
    Calls Try.prog 32 #[.string stops, .int .i32 r] w fun e w' => e = .returned (.int .i64 (-1)) ∧ ∃ n, w' = w.drewN n := by
  obtain ⟨rs, hrs, hsz, hlast⟩ : ∃ rs : ByteArray, Utf8.encode r = rs ∧ rs.size = 2 ∧ ∀ h : 1 < rs.size, 128 ≤ (rs[1]'h).toNat := enc_two r h0 h1
  go_enter Try.func32, Try.ntmps32
  go_wp2_with (first | (go_at_call 34; refine (vr_any _ _ h0 h1).mono ?_; rintro e w' ⟨rfl, hw⟩; rw [hw]; clear hw))
  go_step3
  go_wp2
  go_loop [9, 10] (fun i f => i = .int .i64 1 ∧ f = .int .i64 0) (fun _ _ => 0)
  case atStart => exact ⟨rfl, rfl⟩
  case round =>
    obtain ⟨rfl, rfl⟩ := hrel
    have hs1 : 1 < rs.size := by omega
    have hl := hlast hs1
    have hne : (((stops[1]'(by decide)).toNat : Int) != ((rs[1]'hs1).toNat : Int)) = true := by
      have : (stops[1]'(by decide)).toNat = 125 := by decide
      rw [this]; simp; omega
    have hw2 : IntKind.i64.wrap 2 = 2 := by decide
    have hfi : firstIdx (stops.extract 2 7) (rs[1]'hs1) = -1 := firstIdx_ascii stops 2 7 _ (by decide) hl
    clear hlast
    go_wp2
    go_step3
    go_wp2
    go_quiet (fail)
    go_wp2
    generalize hw1 : w.drewN nq = w1
    have HW : Hid (w.drewN nq = w1) := hw1
    clear hw1
    go_quiet ((go_at_call 33; exact Calls.quiet_of_same (ib_any _ _ _)))
    go_wp2
    rw [Exit.noGoto_ret]
    go_wp2
    rw [Exit.noGoto_ret]
    go_wp2
    go_ret
    refine ⟨rfl, ?_⟩
    rw [← HW.out]
    exact ⟨_, World.drewN_drewN _ _ _⟩

theorem stops_ascii : ∀ m : Nat, m < 128 → decide (0 ≤ firstIdx stops (m : Int).toNat.toUInt8) = stopB (m : Int) := by decide +kernel
theorem stops_wide (c : Int) (h0 : 128 ≤ c) : stopB c = false := by
  unfold stopB
  simp
  omega

set_option maxHeartbeats 400000 in
theorem cr_any (c : Int) (w : World) (h0 : 0 ≤ c) (h1 : c < 256) :
    Calls Try.prog 31 #[.string stops, .int .i32 c] w fun e w' => e = .returned (.bool (stopB c)) ∧ ∃ n, w' = w.drewN n := by
  by_cases h : c < 128
  · have hs : decide (0 ≤ firstIdx stops c.toNat.toUInt8) = stopB c := by
      have := stops_ascii c.toNat (by omega)
      rw [Int.toNat_of_nonneg h0] at this
      exact this
    go_enter Try.func31, Try.ntmps31
    go_wp2_with (go_at_call 32; refine (ir_ascii _ _ _ h0 h).mono ?_; rintro e w' ⟨rfl, rfl⟩)
    go_ret
    exact ⟨by first | rfl | rw [hs], 0, rfl⟩
  · have hs := stops_wide c (by omega)
    go_enter Try.func31, Try.ntmps31
    go_wp2_with (go_at_call 32; refine (ir_wide _ _ (by omega) h1).mono ?_; rintro e w' ⟨rfl, n, rfl⟩)
    go_ret
    exact ⟨by rw [hs]; rfl, n, rfl⟩

end Go.Proofs.Qxb6602447a
