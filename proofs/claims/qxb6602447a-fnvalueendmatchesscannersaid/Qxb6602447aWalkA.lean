/-
  THE WALKS of seat b6602447a, first part: stringEnd.
-/
import Derived.Test.Qxb6602447aProg
import Derived.Test.Qxb6602447aPlain
import Derived.WalkKit
import Derived.WalkSpells
import Derived.WalkLawsBesides
namespace Go.Proofs.Qxb6602447a
open Go.RowKit Pl

/-- What a contract asks of a []byte: n bytes xs at block b from offset off on. -/
def Dat (w : World) (b off n : Nat) (xs : List Int) : Prop := xs.length = n ∧ ∀ j, j < n → w.cell? ⟨b, off + j, none⟩ = some (.int .u8 (el xs j))

theorem ret_int {k : IntKind} {a b : Int} (h : a = b) : Ending.returned (.int k a) = .returned (.int k b) := by rw [h]
theorem bt {a b : Int} (h : (a == b) = true) : a = b := by simpa using h
theorem bf {a b : Int} (h : (a == b) = false) : ¬ a = b := by simpa using h

set_option maxHeartbeats 400000 in
theorem stringEnd_any (b off n c i : Nat) (xs : List Int) (w : World) (hn : n ≤ 1048576) (hi : i < n) (hd : Dat w b off n xs) :
    Calls Try.prog 28 #[.slice (some ⟨b, off, none⟩) n c, .int .i64 i] w fun e w' => e = .returned (.int .i64 (at_ xs 2 0 (i + 1))) ∧ w' = w := by
  obtain ⟨hl, hc⟩ := hd
  have HL : Hid (xs.length = n) := hl
  clear hl
  go_enter Try.func28, Try.ntmps28
  go_wp2
  go_loop [1] (fun t => ∃ k : Nat, k ≤ n + 1 ∧ t = .int .i64 k ∧ Hid (at_ xs 2 0 (i + 1) = at_ xs 2 0 k)) (fun t => n + 1 - (intOf t).toNat)
  case atStart => exact ⟨i + 1, by omega, by go_num, rfl⟩
  case round =>
    obtain ⟨k, hk, rfl, HR⟩ := hrel
    have hcell : k < n → w.cell? ⟨b, off + k, none⟩ = some (.int .u8 (el xs k)) := fun h => hc k h
    clear hc
    go_wp2
    · have h1 : k < n := by assumption
      have h2 : (el xs k == 34) = true := by assumption
      go_ret
      exact ⟨ret_int (by rw [HR.out, s2_quote xs 0 k (by rw [HL.out]; exact h1) (bt h2)]), rfl⟩
    · have h1 : k < n := by assumption
      have h2 : (el xs k == 92) = true := by assumption
      go_round
      case rel => exact ⟨k + 2, by omega, by go_num, HR.out.trans (s2_two xs 0 k (by rw [HL.out]; exact h1) (bt h2))⟩
      case measure => simp [intOf]; omega
    · have h1 : k < n := by assumption
      have h2 : (el xs k == 34) = false := by assumption
      have h3 : (el xs k == 92) = false := by assumption
      go_round
      case rel => exact ⟨k + 1, by omega, by go_num, HR.out.trans (s2_other xs 0 k (by rw [HL.out]; exact h1) (bf h2) (bf h3))⟩
      case measure => simp [intOf]; omega
    · have h1 : ¬ k < n := by assumption
      go_ret
      exact ⟨ret_int (by rw [HR.out, at_end xs 2 0 k (by rw [HL.out]; exact h1)]; rfl), rfl⟩

end Go.Proofs.Qxb6602447a
