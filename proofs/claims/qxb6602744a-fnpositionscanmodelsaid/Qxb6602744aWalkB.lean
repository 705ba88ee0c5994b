/-
  THE WALKS of seat b6602744a, second part: bytes.LastIndexByte, config.position, ZZposition.
-/
import Derived.Test.Qxb6602744aWalkA
namespace Go.Proofs.Qxb6602744a
open Go.RowKit

theorem last_any (b off n k c : Nat) (xs : List Int) (w : World) (hn : n ≤ 1048576) (hk : k ≤ n) (hd : Dat w b off n xs) :
    Calls Try.prog 16 #[.slice (some ⟨b, off, none⟩) k c, .int .u8 10] w fun e w' => e = .returned (.int .i64 (lst xs k)) ∧ w' = w := by
  have HD : Hid (Dat w b off n xs) := hd
  clear hd
  go_enter Try.func16, Try.ntmps16
  go_wp2_with (go_at_call 20; refine (last_in b off n k c xs _ hn hk HD.out).mono ?_; rintro e w' ⟨rfl, rfl⟩)
  go_ret
  exact ⟨rfl, rfl⟩

theorem two_int {a b a' b' : Int} (h : a = a') (h' : b = b') : Ending.returned (.tuple #[.int .i64 a, .int .i64 b]) = .returned (.tuple #[.int .i64 a', .int .i64 b']) := by rw [h, h']

theorem dat_below {w w' : World} {b off n : Nat} {xs : List Int} (hs : Dat w b off n xs) (hb : Below w.heap.size w w') : Dat w' b off n xs :=
  ⟨hs.1, fun j hj => by have := hs.2 j hj; exact (hb.cell (World.block_lt_of_cell? _ _ this)).trans this⟩

set_option maxHeartbeats 800000 in
/-- k: the offset clamped into the text. -/
theorem position_any (b off n c k : Nat) (o : Int) (xs : List Int) (w : World) (hn : n ≤ 1048576) (hnc : n ≤ c) (hd : Dat w b off n xs) (hb : Byt xs) (hk : max 0 (min o (n : Int)) = (k : Int)) (hkn : k ≤ n) :
    Calls Try.prog 14 #[.slice (some ⟨b, off, none⟩) n c, .int .i64 o] w fun e w' => e = .returned (.tuple #[.int .i64 (1 + (cnt xs k : Int)), .int .i64 ((k : Int) - lst xs k)]) ∧ Below w.heap.size w w' := by
  have HD : Hid (∀ o, Dat (w.alloc o) b off n xs) := fun o => dat_below hd ((Below.refl _ _).alloc (Nat.le_refl _) o)
  have kc := fun (w : World) (C : Array Value) (n c : Nat) => Lib.run_convert_bytes_const (P := Try.prog) w 24 5 C n c Try.underlying24 Try.underlying5
  have hc1 := cnt_le xs k
  have hl1 := lst_range xs k
  obtain ⟨N, hN⟩ : ∃ N, cnt xs k = N := ⟨_, rfl⟩
  obtain ⟨L, hL⟩ : ∃ L, lst xs k = L := ⟨_, rfl⟩
  have Z1 : Hid (∀ w' b2, Dat w' b off n xs → w'.cell? ⟨b2, 0, none⟩ = some (.int .u8 10) → Calls Try.prog 15 #[.slice (some ⟨b, off, none⟩) k c, .slice (some ⟨b2, 0, none⟩) 1 1] w' fun e w'' => e = .returned (.int .i64 (N : Int)) ∧ w'' = w') :=
    fun w' b2 h h2 => by have := count_any b off n k c b2 1 xs w' hkn h hb h2; rw [hN] at this; exact this
  have Z2 : Hid (∀ w', Dat w' b off n xs → Calls Try.prog 16 #[.slice (some ⟨b, off, none⟩) k c, .int .u8 10] w' fun e w'' => e = .returned (.int .i64 L) ∧ w'' = w') :=
    fun w' h => by have := last_any b off n k c xs w' hn hkn h; rw [hL] at this; exact this
  rw [hN] at hc1 ⊢
  rw [hL] at hl1 ⊢
  obtain ⟨hl2, hl3⟩ := hl1
  clear hd hb hN hL
  go_enter Try.func14, Try.ntmps14
  go_wp2_with fail
  refine (Z1.out _ _ (HD.out _) (by rw [World.cell?_alloc_mark]; rfl)).mono ?_
  rintro e w' ⟨rfl, hw⟩
  rw [hw]
  clear hw
  go_wp2_with fail
  refine (Z2.out _ (HD.out _)).mono ?_
  rintro e w' ⟨rfl, hw⟩
  rw [hw]
  clear hw
  go_wp2
  go_ret2
  exact ⟨two_int rfl (by omega), (Below.refl _ _).alloc (Nat.le_refl _) _⟩

end Go.Proofs.Qxb6602744a
