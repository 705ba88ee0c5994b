/-
  THE WALKS of seat b6602447a, sixth part: what FnValueEndPrefixClosed wants besides: its bound on the total length, a copy of whatever text, the plain law on prefixes.
-/
import Derived.Test.Qxb6602447aWalkE
namespace Go.Proofs.Qxb6602447a
open Go.RowKit Pl

theorem zb14_yes (a a' : Option Addr) (n c n' c' : Nat) (i : Int) (w : World) (hn : n + n' ≤ 1048576) : Calls Try.prog 14 #[.slice a n c, .int .i64 i, .slice a' n' c'] w fun e w' => e = .returned (.bool true) ∧ w' = w := by
  go_enter Try.func14, Try.ntmps14
  go_wp2
  go_ret
  exact ⟨rfl, rfl⟩
theorem zb14_no (a a' : Option Addr) (n c n' c' : Nat) (i : Int) (w : World) (hm : n ≤ maxLen) (hm' : n' ≤ maxLen) (hn : 1048576 < n + n') : Calls Try.prog 14 #[.slice a n c, .int .i64 i, .slice a' n' c'] w fun e w' => e = .returned (.bool false) ∧ w' = w := by
  unfold maxLen at hm hm'
  by_cases h1 : 1048576 < n
  · go_enter Try.func14, Try.ntmps14
    go_wp2
    go_ret
    exact ⟨rfl, rfl⟩
  · by_cases h2 : 1048576 < n'
    · go_enter Try.func14, Try.ntmps14
      go_wp2
      go_ret
      exact ⟨rfl, rfl⟩
    · go_enter Try.func14, Try.ntmps14
      go_wp2
      go_ret
      exact ⟨rfl, rfl⟩

/-- A text that came in: nil, of no byte, or at an address. -/
def Src (w : World) (a : Option Addr) (n : Nat) (xs : List Int) : Prop :=
  xs.length = n ∧ (a = none → n = 0) ∧ ∀ ad, a = some ad → ∀ j, j < n → w.cell? (ad.add j) = some (.int .u8 (el xs j))

/-- The copy of whatever text. -/
theorem clone_src (a : Option Addr) (n c : Nat) (xs : List Int) (w : World) (hn : n ≤ 1048576) (hc : a = none → c = 0) (hs : Src w a n xs) :
    Calls Try.prog 10 #[.slice a n c] w fun e w' => ∃ a', e = .returned (.slice a' n n) ∧ Src w' a' n xs ∧ Below w.heap.size w w' := by
  obtain ⟨hl, h0, hcell⟩ := hs
  cases a with
  | none =>
    obtain rfl := h0 rfl
    obtain rfl := hc rfl
    exact (clone_nil w).mono fun e w' ⟨he, hw⟩ => ⟨none, he, ⟨hl, fun _ => rfl, fun ad h => by cases h⟩, by rw [hw]; exact Below.refl _ _⟩
  | some x =>
    by_cases hz : n = 0
    · subst hz
      exact (clone_empty x c w).mono fun e w' ⟨he, hw⟩ => ⟨_, he, ⟨hl, fun _ => rfl, fun ad _ j hj => by omega⟩, hw⟩
    · have h0' := hcell x rfl
      obtain ⟨b, off, spot⟩ := x
      have hspot : spot = none := by simpa [Addr.add] using World.cell?_spot (h0' 0 (by omega))
      subst hspot
      have hd : Dat w b off n xs := ⟨hl, fun j hj => by rw [← Go.WideShapes.add_plain]; exact h0' j hj⟩
      refine (clone_some b off n c xs w hn (by omega) hd).mono fun e w' ⟨he, hrow, hbel⟩ => ⟨_, he, ⟨hl, fun h => (by cases h), fun ad h j hj => ?_⟩, hbel⟩
      obtain rfl := Option.some.inj h
      rw [Go.WideShapes.add_plain, Nat.zero_add]
      exact hrow.cell hj

theorem src_below {w w' : World} {a : Option Addr} {n : Nat} {xs : List Int} (hs : Src w a n xs) (hb : Below w.heap.size w w') : Src w' a n xs :=
  ⟨hs.1, hs.2.1, fun ad h j hj => by have := hs.2.2 ad h j hj; exact (hb.cell (World.block_lt_of_cell? _ _ this)).trans this⟩
theorem dat_below {w w' : World} {b off n : Nat} {xs : List Int} (hs : Dat w b off n xs) (hb : Below w.heap.size w w') : Dat w' b off n xs :=
  ⟨hs.1, fun j hj => by have := hs.2 j hj; exact (hb.cell (World.block_lt_of_cell? _ _ this)).trans this⟩

/-- THE PLAIN LAW ON PREFIXES. -/
theorem prefix_law (xs : List Int) (i e : Nat) (hi : i ≤ xs.length) (h : at_ xs 0 0 i = (e : Int)) :
    i < e ∧ e ≤ xs.length ∧ at_ (xs.take e) 0 0 i = (e : Int) ∧ (el xs i = 34 ∨ el xs i = 123 ∨ el xs i = 91 → ∀ t, at_ (xs.take e ++ t) 0 0 i = (e : Int)) := by
  have hr := at_start xs 0 i hi
  have h1 : i < e := by omega
  have h2 : e ≤ xs.length := by omega
  have hlt : i < xs.length := by omega
  have e1 : (xs.take e).drop i = (xs.drop i).take (e - i) := List.drop_take
  have e2 : ((e : Int) - (i : Int)).toNat = e - i := by omega
  have p := vm_prefix (xs.drop i) 0 0 i e (by omega) h (by omega)
  refine ⟨h1, h2, ?_, fun hc t => ?_⟩
  · unfold at_
    rw [e1, ← e2]
    exact p.2
  · have e3 : (xs.take e ++ t).drop i = el xs i :: ((xs.drop (i + 1)).take (e - (i + 1)) ++ t) := by
      rw [List.drop_append_of_le_length (by rw [List.length_take]; omega), e1, drop_el xs i hlt]
      have e4 : e - i = (e - (i + 1)) + 1 := by omega
      rw [e4, List.take_succ_cons, List.cons_append]
    have e5 : ((e : Int) - ((i : Int) + 1)).toNat = e - (i + 1) := by omega
    unfold at_ at h ⊢
    rw [e3]
    rw [drop_el xs i hlt] at h
    rcases hc with c | c | c
    · have h' : vm (xs.drop (i + 1)) 2 0 ((i : Int) + 1) = (e : Int) := by rw [← h]; simp [vm, c]
      have q := (vm_prefix (xs.drop (i + 1)) 2 0 ((i : Int) + 1) e (by omega) h' (by omega)).1 (by omega) (by omega) t
      rw [e5] at q
      rw [← q]; simp [vm, c]
    · have h' : vm (xs.drop (i + 1)) 4 1 ((i : Int) + 1) = (e : Int) := by rw [← h]; simp [vm, c]
      have q := (vm_prefix (xs.drop (i + 1)) 4 1 ((i : Int) + 1) e (by omega) h' (by omega)).1 (by omega) (by omega) t
      rw [e5] at q
      rw [← q]; simp [vm, c]
    · have h' : vm (xs.drop (i + 1)) 4 1 ((i : Int) + 1) = (e : Int) := by rw [← h]; simp [vm, c]
      have q := (vm_prefix (xs.drop (i + 1)) 4 1 ((i : Int) + 1) e (by omega) h' (by omega)).1 (by omega) (by omega) t
      rw [e5] at q
      rw [← q]; simp [vm, c]

end Go.Proofs.Qxb6602447a
