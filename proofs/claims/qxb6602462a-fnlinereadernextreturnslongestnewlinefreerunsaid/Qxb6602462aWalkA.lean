/-
  THE WALKS of seat b6602462a, first part: bytes.IndexByte at the line feed; (*lineReader).next; ZZLineReaderNext.
-/
import Derived.Test.Qxb6602462aProg
import Derived.WalkKit
import Derived.WalkSpells
import Derived.WalkLawsBesides
import Derived.BigQuiet
import Derived.Deep.QuietTactic
import Derived.Lib.BytesEntry
import Derived.Lib.IndexLaws
namespace Go.Proofs.Qxb6602462a
open Go.RowKit

/-- The byte at place j. -/
def el (xs : List Int) (j : Nat) : Int := xs.getD j 0
/-- What a contract asks of a []byte: n bytes xs at block b from offset off on. -/
def Dat (w : World) (b off n : Nat) (xs : List Int) : Prop := xs.length = n ∧ ∀ j, j < n → w.cell? ⟨b, off + j, none⟩ = some (.int .u8 (el xs j))
/-- Each number is a byte's. -/
def Byt (xs : List Int) : Prop := ∀ j, 0 ≤ el xs j ∧ el xs j < 256
/-- r is the first place of c in xs, or -1 where there is none. -/
def Fst (xs : List Int) (c r : Int) : Prop :=
  (r = -1 ∧ ∀ j, j < xs.length → ¬ el xs j = c) ∨ ∃ m : Nat, r = m ∧ m < xs.length ∧ el xs m = c ∧ ∀ j, j < m → ¬ el xs j = c

theorem bytes_at (xs : List Int) (j : Nat) (hj : j < xs.length) : (Lib.bytesOf xs)[j]? = some (UInt8.ofNat (el xs j).toNat) := by
  unfold Lib.bytesOf el
  rw [List.getElem?_map, List.getElem?_eq_getElem hj]
  simp [hj]
theorem byte_eq {a c : Int} (ha : 0 ≤ a ∧ a < 256) (hc : 0 ≤ c ∧ c < 256) : UInt8.ofNat a.toNat = UInt8.ofNat c.toNat ↔ a = c := by
  constructor
  · intro h
    have := congrArg UInt8.toNat h
    simp at this
    omega
  · intro h; rw [h]
theorem fst_of (xs : List Int) (c : Int) (hb : Byt xs) (hc : 0 ≤ c ∧ c < 256) : Fst xs c (Lib.indexByte (Lib.bytesOf xs) (UInt8.ofNat c.toNat)) := by
  have hge := Lib.indexByte_ge (Lib.bytesOf xs) (UInt8.ofNat c.toNat)
  by_cases h : Lib.indexByte (Lib.bytesOf xs) (UInt8.ofNat c.toNat) = -1
  · refine .inl ⟨h, fun j hj e => ?_⟩
    have := Lib.indexByte_none h j
    rw [bytes_at xs j hj, e] at this
    exact this rfl
  · obtain ⟨m, hm⟩ : ∃ m : Nat, Lib.indexByte (Lib.bytesOf xs) (UInt8.ofNat c.toNat) = m := ⟨(Lib.indexByte (Lib.bytesOf xs) (UInt8.ofNat c.toNat)).toNat, by omega⟩
    obtain ⟨h1, h2⟩ := Lib.indexByte_some hm
    have hlt : m < xs.length := by
      have := (List.getElem?_eq_some_iff.1 h1).1
      rwa [Lib.bytesOf_length] at this
    refine .inr ⟨m, hm, hlt, ?_, fun j hj e => ?_⟩
    · rw [bytes_at xs m hlt] at h1
      exact (byte_eq (hb m) hc).1 (Option.some.inj h1)
    · have := h2 j hj
      rw [bytes_at xs j (by omega), e] at this
      exact this rfl

theorem ret_int {k : IntKind} {a b : Int} (h : a = b) : Ending.returned (.int k a) = .returned (.int k b) := by rw [h]

set_option maxHeartbeats 400000 in
/-- bytes.IndexByte at the line feed. -/
theorem ib_any (b off n c : Nat) (xs : List Int) (w : World) (hd : Dat w b off n xs) (hb : Byt xs) :
    Calls Try.prog 26 #[.slice (some ⟨b, off, none⟩) n c, .int .u8 10] w fun e w' => ∃ r, e = .returned (.int .i64 r) ∧ Fst xs 10 r ∧ w' = w := by
  have hf := fst_of xs 10 hb (by omega)
  have hr := Lib.run_indexByteSlice (P := Try.prog) w b off n c xs hd.1 hd.2 10
  have HF : Hid (Fst xs 10 (Lib.indexByte (Lib.bytesOf xs) (UInt8.ofNat (10 : Int).toNat))) := hf
  have HR : Hid ((Extern.BytealgIndexByte.indexByte #[.slice (some ⟨b, off, none⟩) n c, .int .u8 10]).run Try.prog w = .ok (.int .i64 (Lib.indexByte (Lib.bytesOf xs) (10 : Int).toNat.toUInt8)) w) := hr
  clear hf hr hd hb
  go_enter Try.func26, Try.ntmps26
  go_wp2
  rw [run_callFunc_extern Try.func28 (by kernel_rfl) (by kernel_rfl) (by kernel_rfl) (e := Extern.BytealgIndexByte.indexByte) (by kernel_rfl), HR.out]
  simp only [Result.andThen]
  rw [Oper.upon_value]
  go_wp2
  go_ret
  exact ⟨_, rfl, HF.out, rfl⟩

set_option maxHeartbeats 400000 in
/-- next, at or past the end. -/
theorem next_past (a : Option Addr) (n c B : Nat) (p : Int) (w : World) (hp : (n : Int) ≤ p) (h0 : w.cell? ⟨B, 0, none⟩ = some (.slice a n c)) (h1 : w.cell? ⟨B, 1, none⟩ = some (.int .i64 p)) :
    Calls Try.prog 24 #[.pointer (some ⟨B, 0, none⟩)] w fun e w' => e = .returned (.tuple #[.slice none 0 0, .int .i64 p, .bool false]) ∧ w' = w := by
  go_enter Try.func24, Try.ntmps24
  go_wp2
  go_ret3
  exact ⟨rfl, rfl⟩

/-- What is left of a text behind place i. -/
theorem dat_drop {w : World} {b off n i : Nat} {xs : List Int} (h : Dat w b off n xs) (hi : i ≤ n) : Dat w b (off + i) (n - i) (xs.drop i) := by
  refine ⟨by rw [List.length_drop, h.1], fun j hj => ?_⟩
  have := h.2 (i + j) (by omega)
  have e : el (xs.drop i) j = el xs (i + j) := by unfold el; simp
  rw [e, ← this]
  congr 2
  omega
theorem byt_drop {xs : List Int} {i : Nat} (h : Byt xs) : Byt (xs.drop i) := by
  intro j
  have e : el (xs.drop i) j = el xs (i + j) := by unfold el; simp
  rw [e]; exact h _

/-- THE PLAIN ANSWER: from place p inside the text the line has m bytes, none a line feed; behind it stands a line feed, or nothing; q: where the reader stands then. -/
def Line (xs : List Int) (p m : Nat) (q : Int) : Prop :=
  p + m ≤ xs.length ∧ (∀ j, j < m → ¬ el xs (p + j) = 10) ∧ ((p + m = xs.length ∧ q = p + m) ∨ (p + m < xs.length ∧ el xs (p + m) = 10 ∧ q = p + m + 1))

set_option maxHeartbeats 800000 in
/-- next, inside the text. -/
theorem next_in (b off n c B p : Nat) (xs : List Int) (w : World) (hn : n ≤ 1048576) (hp : p < n) (hnc : n ≤ c) (hd : Dat w b off n xs) (hb : Byt xs)
    (h0 : w.cell? ⟨B, 0, none⟩ = some (.slice (some ⟨b, off, none⟩) n c)) (h1 : w.cell? ⟨B, 1, none⟩ = some (.int .i64 p)) (hf : w.frozen? ⟨B, 1, none⟩ = false) :
    Calls Try.prog 24 #[.pointer (some ⟨B, 0, none⟩)] w fun e w' => ∃ m : Nat, ∃ q : Int, Line xs p m q ∧ 0 ≤ q ∧ e = .returned (.tuple #[.slice (some ⟨b, off + p, none⟩) m (c - p), .int .i64 p, .bool true]) ∧ w' = w.setCell ⟨B, 1, none⟩ (.int .i64 q) := by
  have HD : Hid (Dat w b (off + p) (n - p) (xs.drop p)) := dat_drop hd (Nat.le_of_lt hp)
  have HB : Hid (Byt (xs.drop p)) := byt_drop hb
  have HL : Hid (xs.length = n) := hd.1
  have hpc : ¬ c = p := by omega
  clear hd hb
  go_enter Try.func24, Try.ntmps24
  go_wp2_with fail
  refine (ib_any b (off + p) (n - p) (c - p) (xs.drop p) w HD.out HB.out).mono ?_
  rintro e w' ⟨r, rfl, hr, hw⟩
  rw [hw]
  clear hw
  have hlen : (xs.drop p).length = n - p := by rw [List.length_drop, HL.out]
  unfold Fst at hr
  rw [hlen] at hr
  clear hlen
  have hel : ∀ j, el (xs.drop p) j = el xs (p + j) := fun j => by unfold el; simp
  simp only [hel] at hr
  clear hel
  have HR : Hid ((r = -1 ∧ ∀ j, j < n - p → ¬ el xs (p + j) = 10) ∨ ∃ m : Nat, r = m ∧ m < n - p ∧ el xs (p + m) = 10 ∧ ∀ j, j < m → ¬ el xs (p + j) = 10) := hr
  clear hr
  rcases HR.out with ⟨rfl, hno⟩ | ⟨m, rfl, hm, hc10, hno⟩
  · have HN : Hid (∀ j, j < n - p → ¬ el xs (p + j) = 10) := hno
    clear hno HR
    go_wp2
    go_ret3
    exact ⟨n - p, n, ⟨by rw [HL.out]; omega, HN.out, .inl ⟨by rw [HL.out]; omega, by omega⟩⟩, by omega, rfl, rfl⟩
  · have HN : Hid (∀ j, j < m → ¬ el xs (p + j) = 10) := hno
    have HC : Hid (el xs (p + m) = 10) := hc10
    clear hno HR hc10
    go_wp2
    go_ret3
    exact ⟨m, p + m + 1, ⟨by rw [HL.out]; omega, HN.out, .inr ⟨by rw [HL.out]; omega, HC.out, by omega⟩⟩, by omega, by simp, rfl⟩

theorem below_drewN {B m : Nat} {w w' : World} (h : Below B w w') : Below B w (w'.drewN m) := ⟨h.os, h.tape, h.output, h.size, h.block⟩
theorem dat_below {w w' : World} {b off n : Nat} {xs : List Int} (hs : Dat w b off n xs) (hb : Below w.heap.size w w') : Dat w' b off n xs :=
  ⟨hs.1, fun j hj => by have := hs.2 j hj; exact (hb.cell (World.block_lt_of_cell? _ _ this)).trans this⟩

set_option maxHeartbeats 800000 in
theorem zz_past (a : Option Addr) (n c : Nat) (p : Int) (w : World) (hp : (n : Int) ≤ p) :
    Calls Try.prog 17 #[.slice a n c, .int .i64 p] w fun e w' => e = .returned (.tuple #[.slice none 0 0, .int .i64 p, .bool false, .int .i64 p]) ∧ Below w.heap.size w w' := by
  go_enter Try.func17, Try.ntmps17
  go_wp2_with fail
  refine (next_past a n c w.heap.size p _ hp (by simp) (by simp)).mono ?_
  rintro e w' ⟨rfl, hw⟩
  rw [hw]
  clear hw
  go_wp2
  go_quiet (fail)
  go_wp2
  refine bodyPost_ret (v := .tuple #[.slice none 0 0, .int .i64 p, .bool false, .int .i64 p]) (by simp [results, Try.results17, go_sem]) rfl ⟨rfl, ?_⟩
  exact below_drewN ((Below.refl _ _).alloc (Nat.le_refl _) _)

set_option maxHeartbeats 800000 in
theorem zz_in (b off n c p : Nat) (xs : List Int) (w : World) (hn : n ≤ 1048576) (hp : p < n) (hnc : n ≤ c) (hd : Dat w b off n xs) (hb : Byt xs) :
    Calls Try.prog 17 #[.slice (some ⟨b, off, none⟩) n c, .int .i64 p] w fun e w' => ∃ m : Nat, ∃ q : Int, Line xs p m q ∧ e = .returned (.tuple #[.slice (some ⟨b, off + p, none⟩) m (c - p), .int .i64 p, .bool true, .int .i64 q]) ∧ Below w.heap.size w w' := by
  have HD : Hid (∀ o, Dat (w.alloc o) b off n xs) := fun o => dat_below hd ((Below.refl _ _).alloc (Nat.le_refl _) o)
  clear hd
  go_enter Try.func17, Try.ntmps17
  go_wp2_with fail
  refine (next_in b off n c w.heap.size p xs _ hn hp hnc (HD.out _) hb (by simp) (by simp) (by simp)).mono ?_
  rintro e w' ⟨m, q, hline, hq, rfl, hw⟩
  have HL : Hid (Line xs p m q) := hline
  rw [hw]
  clear hw hline
  go_wp2
  go_quiet (fail)
  go_wp2
  refine bodyPost_ret (v := .tuple #[.slice (some ⟨b, off + p, none⟩) m (c - p), .int .i64 p, .bool true, .int .i64 q]) (by simp [results, Try.results17, go_sem]) rfl ⟨m, q, HL.out, rfl, ?_⟩
  first
    | exact below_drewN ((Below.refl _ _).alloc (Nat.le_refl _) _)
    | exact below_drewN (((Below.refl _ _).alloc (Nat.le_refl _) _).setCell (Nat.le_refl _) _)

theorem zb_yes (a : Option Addr) (n c : Nat) (i : Int) (w : World) (hn : n ≤ 1048576) : Calls Try.prog 16 #[.slice a n c, .int .i64 i] w fun e w' => e = .returned (.bool true) ∧ w' = w := by
  go_enter Try.func16, Try.ntmps16
  go_wp2
  go_ret
  exact ⟨rfl, rfl⟩
theorem zb_no (a : Option Addr) (n c : Nat) (i : Int) (w : World) (hn : 1048576 < n) : Calls Try.prog 16 #[.slice a n c, .int .i64 i] w fun e w' => e = .returned (.bool false) ∧ w' = w := by
  go_enter Try.func16, Try.ntmps16
  go_wp2
  go_ret
  exact ⟨rfl, rfl⟩

end Go.Proofs.Qxb6602462a
