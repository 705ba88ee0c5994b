/-
  THE WALKS of seat b6602744a, first part: bytes.Count and bytes.LastIndexByte at the line feed; config.position.
-/
import Derived.Test.Qxb6602744aProg
import Derived.WalkKit
import Derived.WalkSpells
import Derived.WalkLawsBesides
import Derived.Lib.BytesEntry
import Derived.Lib.SlBytesConst
import Derived.Shelf.Bytes.SlCountOne
namespace Go.Proofs.Qxb6602744a
open Go.RowKit

/-- The byte at place j. -/
def el (xs : List Int) (j : Nat) : Int := xs.getD j 0
/-- What a contract asks of a []byte: n bytes xs at block b from offset off on. -/
def Dat (w : World) (b off n : Nat) (xs : List Int) : Prop := xs.length = n ∧ ∀ j, j < n → w.cell? ⟨b, off + j, none⟩ = some (.int .u8 (el xs j))
/-- Each number is a byte's. -/
def Byt (xs : List Int) : Prop := ∀ j, 0 ≤ el xs j ∧ el xs j < 256
/-- How many line feeds stand among the first k bytes. -/
def cnt (xs : List Int) : Nat → Nat
  | 0 => 0
  | k + 1 => if el xs k = 10 then cnt xs k + 1 else cnt xs k
theorem cnt_succ (xs : List Int) (k : Nat) : cnt xs (k + 1) = if el xs k = 10 then cnt xs k + 1 else cnt xs k := rfl
/-- The last place of a line feed among the first k bytes, or -1. -/
def lst (xs : List Int) : Nat → Int
  | 0 => -1
  | k + 1 => if el xs k = 10 then (k : Int) else lst xs k
theorem lst_succ (xs : List Int) (k : Nat) : lst xs (k + 1) = if el xs k = 10 then (k : Int) else lst xs k := rfl

theorem cnt_le (xs : List Int) : ∀ k, cnt xs k ≤ k
  | 0 => Nat.le_refl _
  | k + 1 => by have := cnt_le xs k; unfold cnt; split <;> omega
theorem lst_range (xs : List Int) : ∀ k : Nat, -1 ≤ lst xs k ∧ lst xs k < k
  | 0 => by simp [lst]
  | k + 1 => by have := lst_range xs k; unfold lst; split <;> omega

theorem byte_eq {a c : Int} (ha : 0 ≤ a ∧ a < 256) (hc : 0 ≤ c ∧ c < 256) : UInt8.ofNat a.toNat = UInt8.ofNat c.toNat ↔ a = c := by
  constructor
  · intro h
    have := congrArg UInt8.toNat h
    simp at this
    omega
  · intro h; rw [h]
theorem cnt_of (xs : List Int) (hb : Byt xs) : ∀ k, k ≤ xs.length → Lib.countByte (Lib.bytesOf (xs.take k)) (UInt8.ofNat (10 : Int).toNat) = cnt xs k
  | 0, _ => rfl
  | k + 1, h => by
    have ih := cnt_of xs hb k (by omega)
    have e : xs.take (k + 1) = xs.take k ++ [el xs k] := by
      rw [List.take_succ_eq_append_getElem (by omega)]; unfold el; simp [show k < xs.length by omega]
    have e2 : Lib.bytesOf (xs.take (k + 1)) = Lib.bytesOf (xs.take k) ++ [UInt8.ofNat (el xs k).toNat] := by rw [e]; unfold Lib.bytesOf; rw [List.map_append]; rfl
    unfold Lib.countByte at ih ⊢
    rw [e2, List.count_append, ih, cnt_succ]
    by_cases hc : el xs k = 10
    · rw [if_pos hc, hc]; simp
    · rw [if_neg hc, List.count_singleton]
      have : (UInt8.ofNat (el xs k).toNat == UInt8.ofNat (10 : Int).toNat) = false := by
        rw [beq_eq_false_iff_ne]
        exact fun h => hc ((byte_eq (hb k) (by omega)).1 h)
      rw [this]; simp

theorem ret_int {k : IntKind} {a b : Int} (h : a = b) : Ending.returned (.int k a) = .returned (.int k b) := by rw [h]
theorem bt {a b : Int} (h : (a == b) = true) : a = b := by simpa using h
theorem bf {a b : Int} (h : (a == b) = false) : ¬ a = b := by simpa using h

set_option maxHeartbeats 400000 in
/-- bytes.Count at the line feed, of the first k bytes. -/
theorem count_any (b off n k c b2 c2 : Nat) (xs : List Int) (w : World) (hk : k ≤ n) (hd : Dat w b off n xs) (hb : Byt xs) (h2 : w.cell? ⟨b2, 0, none⟩ = some (.int .u8 10)) :
    Calls Try.prog 15 #[.slice (some ⟨b, off, none⟩) k c, .slice (some ⟨b2, 0, none⟩) 1 c2] w fun e w' => e = .returned (.int .i64 (cnt xs k)) ∧ w' = w := by
  have hr := Lib.run_countSlice (P := Try.prog) w b off k c (xs.take k) (by rw [List.length_take, hd.1]; omega) (fun i hi => by rw [hd.2 i (by omega)]; unfold el; simp [hi]) 10
  have HF : Hid (Lib.countByte (Lib.bytesOf (xs.take k)) (UInt8.ofNat (10 : Int).toNat) = cnt xs k) := cnt_of xs hb k (by rw [hd.1]; exact hk)
  have HR : Hid ((Extern.BytealgCount.count #[.slice (some ⟨b, off, none⟩) k c, .int .u8 10]).run Try.prog w = .ok (.int .i64 (cnt xs k)) w) := by
    unfold Hid; rw [hr]; exact congrArg (fun x : Nat => Result.ok (Value.int .i64 (x : Int)) w) HF.out
  clear hr hd hb HF
  go_enter Try.func15, Try.ntmps15
  go_wp2
  rw [run_callFunc_extern Try.func18 (by kernel_rfl) (by kernel_rfl) (by kernel_rfl) (e := Extern.BytealgCount.count) (by kernel_rfl), HR.out]
  simp only [Result.andThen]
  rw [Oper.upon_value]
  go_wp2
  go_ret
  exact ⟨rfl, rfl⟩

set_option maxHeartbeats 400000 in
/-- internal/bytealg.LastIndexByte at the line feed, of the first n bytes. -/
theorem last_in (b off n k c : Nat) (xs : List Int) (w : World) (hn : n ≤ 1048576) (hk : k ≤ n) (hd : Dat w b off n xs) :
    Calls Try.prog 20 #[.slice (some ⟨b, off, none⟩) k c, .int .u8 10] w fun e w' => e = .returned (.int .i64 (lst xs k)) ∧ w' = w := by
  have HD : Hid (Dat w b off n xs) := hd
  clear hd
  go_enter Try.func20, Try.ntmps20
  go_wp2
  go_loop [5] (fun i => ∃ m : Nat, m ≤ k ∧ i = .int .i64 ((m : Int) - 1) ∧ Hid (lst xs k = lst xs m)) (fun i => (intOf i + 1).toNat)
  case atStart => exact ⟨k, Nat.le_refl _, rfl, rfl⟩
  case round =>
    obtain ⟨m, hm, rfl, HR⟩ := hrel
    cases m with
    | zero =>
      go_wp2
      go_ret
      exact ⟨ret_int (by rw [HR.out]; rfl), rfl⟩
    | succ m =>
      have e1 : (((m + 1 : Nat) : Int) - 1) = (m : Int) := by omega
      rw [e1]
      clear e1
      have hcell : w.cell? ⟨b, off + m, none⟩ = some (.int .u8 (el xs m)) := HD.out.2 m (by omega)
      have h1 : (m : Int) < (k : Int) := by omega
      cases c1 : (el xs m == 10)
      · go_wp2
        go_round
        case rel => exact ⟨m, by omega, by go_num, HR.out.trans (by rw [lst_succ, if_neg (bf c1)])⟩
        case measure => simp [intOf]
      · go_wp2
        go_ret
        exact ⟨ret_int (by rw [HR.out, lst_succ, if_pos (bt c1)]), rfl⟩

end Go.Proofs.Qxb6602744a
