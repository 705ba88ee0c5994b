/-
  THE WALKS of seat b6603212a, first part: bytes.IndexByte at the double quote; copyBytes_b1; the bound on the total length; the scanner modelStringEnd_b1.
-/
import Derived.Test.Qxb6603212aProg
import Derived.Test.Qxb6603212aPlain
import Derived.WalkKit
import Derived.WalkSpells
import Derived.WalkLawsBesides
import Derived.Lib.BytesEntry
import Derived.Lib.IndexLaws
import Derived.Deep.OwnRows
namespace Go.Proofs.Qxb6603212a
open Go.RowKit Pl

/-- What a contract asks of a []byte: n bytes xs at block b from offset off on. -/
def Dat (w : World) (b off n : Nat) (xs : List Int) : Prop := xs.length = n ∧ ∀ j, j < n → w.cell? ⟨b, off + j, none⟩ = some (.int .u8 (el xs j))
/-- Each number is a byte's. -/
def Byt (xs : List Int) : Prop := ∀ j, 0 ≤ el xs j ∧ el xs j < 256
/-- r is the first place of c in xs, or -1 where there is none. -/
def Fst (xs : List Int) (c r : Int) : Prop :=
  (r = -1 ∧ ∀ j, j < xs.length → ¬ el xs j = c) ∨ ∃ m : Nat, r = m ∧ m < xs.length ∧ el xs m = c ∧ ∀ j, j < m → ¬ el xs j = c

theorem bytes_at (xs : List Int) (j : Nat) (hj : j < xs.length) : (Lib.bytesOf xs)[j]? = some (UInt8.ofNat (el xs j).toNat) := by
  unfold Lib.bytesOf el
  rw [List.getElem?_map, List.getElem?_eq_getElem hj]
  simp [hj]
theorem byte_eq {a c : Int} (ha : 0 ≤ a ∧ a < 256) (hc : 0 ≤ c ∧ c < 256) : UInt8.ofNat a.toNat = UInt8.ofNat c.toNat ↔ a = c := by
  constructor
  · intro h
    have := congrArg UInt8.toNat h
    simp at this
    omega
  · intro h; rw [h]
theorem fst_of (xs : List Int) (c : Int) (hb : Byt xs) (hc : 0 ≤ c ∧ c < 256) : Fst xs c (Lib.indexByte (Lib.bytesOf xs) (UInt8.ofNat c.toNat)) := by
  have hge := Lib.indexByte_ge (Lib.bytesOf xs) (UInt8.ofNat c.toNat)
  by_cases h : Lib.indexByte (Lib.bytesOf xs) (UInt8.ofNat c.toNat) = -1
  · refine .inl ⟨h, fun j hj e => ?_⟩
    have := Lib.indexByte_none h j
    rw [bytes_at xs j hj, e] at this
    exact this rfl
  · obtain ⟨m, hm⟩ : ∃ m : Nat, Lib.indexByte (Lib.bytesOf xs) (UInt8.ofNat c.toNat) = m := ⟨(Lib.indexByte (Lib.bytesOf xs) (UInt8.ofNat c.toNat)).toNat, by omega⟩
    obtain ⟨h1, h2⟩ := Lib.indexByte_some hm
    have hlt : m < xs.length := by
      have := (List.getElem?_eq_some_iff.1 h1).1
      rwa [Lib.bytesOf_length] at this
    refine .inr ⟨m, hm, hlt, ?_, fun j hj e => ?_⟩
    · rw [bytes_at xs m hlt] at h1
      exact (byte_eq (hb m) hc).1 (Option.some.inj h1)
    · have := h2 j hj
      rw [bytes_at xs j (by omega), e] at this
      exact this rfl

theorem ret_int {k : IntKind} {a b : Int} (h : a = b) : Ending.returned (.int k a) = .returned (.int k b) := by rw [h]

set_option maxHeartbeats 400000 in
/-- bytes.IndexByte at the double quote. -/
theorem ib_any (b off n c : Nat) (xs : List Int) (w : World) (hd : Dat w b off n xs) (hb : Byt xs) :
    Calls Try.prog 35 #[.slice (some ⟨b, off, none⟩) n c, .int .u8 34] w fun e w' => ∃ r, e = .returned (.int .i64 r) ∧ Fst xs 34 r ∧ w' = w := by
  have hf := fst_of xs 34 hb (by omega)
  have hr := Lib.run_indexByteSlice (P := Try.prog) w b off n c xs hd.1 hd.2 34
  have HF : Hid (Fst xs 34 (Lib.indexByte (Lib.bytesOf xs) (UInt8.ofNat (34 : Int).toNat))) := hf
  have HR : Hid ((Extern.BytealgIndexByte.indexByte #[.slice (some ⟨b, off, none⟩) n c, .int .u8 34]).run Try.prog w = .ok (.int .i64 (Lib.indexByte (Lib.bytesOf xs) (34 : Int).toNat.toUInt8)) w) := hr
  clear hf hr hd hb
  go_enter Try.func35, Try.ntmps35
  go_wp2
  rw [run_callFunc_extern Try.func37 (by kernel_rfl) (by kernel_rfl) (by kernel_rfl) (e := Extern.BytealgIndexByte.indexByte) (by kernel_rfl), HR.out]
  simp only [Result.andThen]
  rw [Oper.upon_value]
  go_wp2
  go_ret
  exact ⟨_, rfl, HF.out, rfl⟩

/-- What is left of a text behind place i. -/
theorem dat_drop {w : World} {b off n i : Nat} {xs : List Int} (h : Dat w b off n xs) (hi : i ≤ n) : Dat w b (off + i) (n - i) (xs.drop i) := by
  refine ⟨by rw [List.length_drop, h.1], fun j hj => ?_⟩
  have := h.2 (i + j) (by omega)
  have e : el (xs.drop i) j = el xs (i + j) := by unfold el; simp
  rw [e, ← this]
  congr 2
  omega
theorem byt_drop {xs : List Int} {i : Nat} (h : Byt xs) : Byt (xs.drop i) := by
  intro j
  have e : el (xs.drop i) j = el xs (i + j) := by unfold el; simp
  rw [e]; exact h _

theorem Try.info5 : (Try.prog.info? 5).map (fun i => (i.zero, i.size, i.bytes)) = some (some (.int .u8 0), 1, 1) := by kernel_rfl
theorem eq_nil (w : World) (a : Option Addr) (n c n' c' : Nat) : (binOp .eql 22 (.slice a n c) (.slice none n' c')).run Try.prog w = .ok (.bool a.isNone) w := Lib.run_eql_slice_nil w _ _ a n c n' c' Try.underlying22

theorem clone_nil (w : World) : Calls Try.prog 11 #[.slice none 0 0] w fun e w' => e = .returned (.slice none 0 0) ∧ w' = w := by
  have hq := eq_nil
  go_enter Try.func11, Try.ntmps11
  go_wp2
  go_ret
  exact ⟨rfl, rfl⟩

theorem clone_empty (a : Addr) (c : Nat) (w : World) :
    Calls Try.prog 11 #[.slice (some a) 0 c] w fun e w' => e = .returned (.slice (some ⟨w.heap.size, 0, none⟩) 0 0) ∧ Below w.heap.size w w' := by
  have hq := eq_nil
  have hmk : ∀ w, (Instr.makeSlice 22 (.int .i64 0) (.int .i64 0)).run Try.prog w = .ok (.slice (some ⟨w.heap.size, 0, none⟩) 0 0) (w.alloc (.cells (madeCells #[.int .u8 0] 0) 5)) := fun w => run_make_row' (P := Try.prog) 22 5 (.int .u8 0) 1 Try.underlying22 Try.info5 rfl .i64 .i64 0 (by omega) (by omega) w
  go_enter Try.func11, Try.ntmps11
  go_wp2
  go_loopw [4] (fun i wr => i = .int .i64 0 ∧ Below w.heap.size w wr) (fun _ _ => 0)
  case atStart => exact ⟨rfl, (Below.refl _ _).alloc (Nat.le_refl _) _⟩
  case round =>
    obtain ⟨rfl, hbel⟩ := hrel
    go_wp2
    go_ret
    exact ⟨rfl, hbel⟩

set_option maxHeartbeats 400000 in
theorem clone_some (b off n c : Nat) (xs : List Int) (w : World) (hn : n ≤ 1048576) (h0 : 0 < n) (hd : Dat w b off n xs) :
    Calls Try.prog 11 #[.slice (some ⟨b, off, none⟩) n c] w fun e w' => e = .returned (.slice (some ⟨w.heap.size, 0, none⟩) n n) ∧ w'.rowIs w.heap.size 5 n (fun j => .int .u8 (el xs j)) ∧ Below w.heap.size w w' := by
  have hq := eq_nil
  have hmk := run_make_row' (P := Try.prog) 22 5 (.int .u8 0) 1 Try.underlying22 Try.info5 rfl .i64 .i64 n (by omega) (by omega)
  have HC : Hid (∀ j, j < n → w.cell? ⟨b, off + j, none⟩ = some (.int .u8 (el xs j))) := hd.2
  have HB : Hid (b < w.heap.size) := (block_lt_of_cell (hd.2 0 h0) : _)
  clear hd
  go_enter Try.func11, Try.ntmps11
  go_wp2
  clear hmk
  go_loopw [4] (fun i wr => ∃ k : Nat, k ≤ n ∧ i = .int .i64 k ∧ wr.rowIs w.heap.size 5 n (fun j => if j < k then .int .u8 (el xs j) else .int .u8 0) ∧ Below w.heap.size w wr) (fun i _ => n - (intOf i).toNat)
  case atStart => exact ⟨0, by omega, rfl, (World.rowIs_made w (.int .u8 0) n 5).congr (fun i _ => by simp), (Below.refl _ _).alloc (Nat.le_refl _) _⟩
  case round =>
    obtain ⟨k, hk, rfl, hrow, hbel⟩ := hrel
    by_cases h1 : k < n
    · have hcell : wr.cell? ⟨b, off + k, none⟩ = some (.int .u8 (el xs k)) := (hbel.cell (p := ⟨b, off + k, none⟩) HB.out).trans (HC.out k h1)
      have hc2 := hrow.cell h1
      have hf2 := hrow.frozen k
      have HR : Hid (wr.rowIs w.heap.size 5 n (fun j => if j < k then .int .u8 (el xs j) else .int .u8 0)) := hrow
      have HBL : Hid (Below w.heap.size w wr) := hbel
      clear hrow hbel
      go_wp2
      go_roundw
      case rel =>
        refine ⟨k + 1, by omega, by go_num, (HR.out.set k (.int .u8 (el xs k))).congr (fun j _ => ?_), HBL.out.setCell (Nat.le_refl _) _⟩
        by_cases e : j = k
        · subst e; simp
        · by_cases e2 : j < k
          · have e3 : j < k + 1 := by omega
            simp [e, e2, e3]
          · have e3 : ¬ j < k + 1 := by omega
            simp [e, e2, e3]
      case measure => simp [intOf]; omega
    · go_wp2
      go_ret
      exact ⟨rfl, hrow.congr (fun j hj => by have e : j < k := by omega
                                             simp [e]), hbel⟩

/-- A row of the call's own, as the contracts ask for it. -/
theorem dat_of_row {w : World} {B n : Nat} {xs : List Int} (h : w.rowIs B 5 n (fun j => .int .u8 (el xs j))) (hl : xs.length = n) : Dat w B 0 n xs :=
  ⟨hl, fun j hj => by rw [Nat.zero_add]; exact h.cell hj⟩

theorem zb_yes (a : Option Addr) (n c : Nat) (i : Int) (w : World) (hn : n ≤ 1048576) : Calls Try.prog 16 #[.slice a n c, .int .i64 i] w fun e w' => e = .returned (.bool true) ∧ w' = w := by
  go_enter Try.func16, Try.ntmps16
  go_wp2
  go_ret
  exact ⟨rfl, rfl⟩
theorem zb_no (a : Option Addr) (n c : Nat) (i : Int) (w : World) (hn : 1048576 < n) : Calls Try.prog 16 #[.slice a n c, .int .i64 i] w fun e w' => e = .returned (.bool false) ∧ w' = w := by
  go_enter Try.func16, Try.ntmps16
  go_wp2
  go_ret
  exact ⟨rfl, rfl⟩

theorem bt {a b : Int} (h : (a == b) = true) : a = b := by simpa using h
theorem bf {a b : Int} (h : (a == b) = false) : ¬ a = b := by simpa using h

set_option maxHeartbeats 800000 in
theorem model_any (b off n c i : Nat) (xs : List Int) (w : World) (hn : n ≤ 1048576) (hi : i < n) (hd : Dat w b off n xs) :
    Calls Try.prog 18 #[.slice (some ⟨b, off, none⟩) n c, .int .i64 i] w fun e w' => e = .returned (.int .i64 (at_ xs false (i + 1))) ∧ w' = w := by
  have HD : Hid (Dat w b off n xs) := hd
  have HL : Hid (xs.length = n) := hd.1
  clear hd
  go_enter Try.func18, Try.ntmps18
  go_wp2
  go_loop [5, 6] (fun s p => ∃ k : Nat, ∃ e : Bool, k ≤ n ∧ s = .bool e ∧ p = .int .i64 k ∧ Hid (at_ xs false (i + 1) = at_ xs e k)) (fun _ p => n - (intOf p).toNat)
  case atStart => exact ⟨i + 1, false, by omega, rfl, by go_num, rfl⟩
  case round =>
    obtain ⟨k, e, hk, rfl, rfl, HR⟩ := hrel
    by_cases h1 : k < n
    · have hk1 : k < xs.length := by rw [HL.out]; exact h1
      have hcell : w.cell? ⟨b, off + k, none⟩ = some (.int .u8 (el xs k)) := HD.out.2 k h1
      cases e
      · cases c1 : (el xs k == 92)
        · cases c2 : (el xs k == 34)
          · go_wp2
            go_round
            case rel => exact ⟨k + 1, false, by omega, rfl, by go_num, HR.out.trans (at_other xs k hk1 (bf c1) (bf c2))⟩
            case measure => simp [intOf]; omega
          · go_wp2
            go_ret
            exact ⟨ret_int (by rw [HR.out, at_quote xs k hk1 (bt c2)]), rfl⟩
        · go_wp2
          go_round
          case rel => exact ⟨k + 1, true, by omega, rfl, by go_num, HR.out.trans (at_back xs k hk1 (bt c1))⟩
          case measure => simp [intOf]; omega
      · go_wp2
        go_round
        case rel => exact ⟨k + 1, false, by omega, rfl, by go_num, HR.out.trans (at_esc xs k hk1)⟩
        case measure => simp [intOf]; omega
    · go_wp2
      go_ret
      exact ⟨ret_int (by rw [HR.out, at_end xs e k (by rw [HL.out]; omega)]; omega), rfl⟩

end Go.Proofs.Qxb6603212a
