/-
  THE PLAIN LAW of seat b6603212a: no Go in sight. 'sm' is the escape-flag scanner over what is left of the bytes; 'rn' the number of backslashes that stand right before a place, back to place i.
-/
namespace Go.Proofs.Qxb6603212a.Pl

/-- The byte at place j. -/
def el (xs : List Int) (j : Nat) : Int := xs.getD j 0
/-- The scanner: a backslash swallows the byte that follows it, and the first quote that is not swallowed closes the string; where none does, the end of the text. -/
def sm : List Int → Bool → Int → Int
  | [], _, j => j
  | b :: r, e, j => if e = true then sm r false (j + 1) else if b = 92 then sm r true (j + 1) else if b = 34 then j + 1 else sm r false (j + 1)
/-- The scanner over xs from place k on. -/
def at_ (xs : List Int) (e : Bool) (k : Nat) : Int := sm (xs.drop k) e k
/-- How many backslashes stand right before place i + 1 + d, back to place i. -/
def rn (xs : List Int) (i : Nat) : Nat → Nat
  | 0 => 0
  | d + 1 => if el xs (i + 1 + d) = 92 then rn xs i d + 1 else 0
/-- The flag: an odd number. -/
def odd (n : Nat) : Bool := n % 2 == 1

theorem rn_zero (xs : List Int) (i : Nat) : rn xs i 0 = 0 := rfl
theorem rn_succ (xs : List Int) (i d : Nat) : rn xs i (d + 1) = if el xs (i + 1 + d) = 92 then rn xs i d + 1 else 0 := rfl

theorem drop_el (xs : List Int) (k : Nat) (h : k < xs.length) : xs.drop k = el xs k :: xs.drop (k + 1) := by
  rw [List.drop_eq_getElem_cons h]; simp [el, h]
theorem at_end (xs : List Int) (e : Bool) (k : Nat) (h : k = xs.length) : at_ xs e k = (k : Int) := by
  unfold at_; rw [List.drop_eq_nil_of_le (by omega)]; rfl
theorem at_esc (xs : List Int) (k : Nat) (h : k < xs.length) : at_ xs true k = at_ xs false (k + 1) := by
  unfold at_; rw [drop_el xs k h]; simp [sm]
theorem at_back (xs : List Int) (k : Nat) (h : k < xs.length) (c : el xs k = 92) : at_ xs false k = at_ xs true (k + 1) := by
  unfold at_; rw [drop_el xs k h]; simp [sm, c]
theorem at_quote (xs : List Int) (k : Nat) (h : k < xs.length) (c : el xs k = 34) : at_ xs false k = (k : Int) + 1 := by
  unfold at_; rw [drop_el xs k h]; simp [sm, c]
theorem at_other (xs : List Int) (k : Nat) (h : k < xs.length) (c : ¬ el xs k = 92) (c' : ¬ el xs k = 34) : at_ xs false k = at_ xs false (k + 1) := by
  unfold at_; rw [drop_el xs k h]; simp [sm, c, c']

/-- One place on, which is no quote. -/
theorem step_on (xs : List Int) (i d : Nat) (h : i + 1 + d < xs.length) (c : ¬ el xs (i + 1 + d) = 34) : at_ xs (odd (rn xs i d)) (i + 1 + d) = at_ xs (odd (rn xs i (d + 1))) (i + 1 + (d + 1)) := by
  have e1 : i + 1 + (d + 1) = i + 1 + d + 1 := by omega
  rw [e1, rn_succ]
  by_cases c1 : el xs (i + 1 + d) = 92
  · rw [if_pos c1]
    cases ho : odd (rn xs i d)
    · have h2 : odd (rn xs i d + 1) = true := by unfold odd at ho ⊢; simp at ho ⊢; omega
      rw [h2, at_back xs _ h c1]
    · have h2 : odd (rn xs i d + 1) = false := by unfold odd at ho ⊢; simp at ho ⊢; omega
      rw [h2, at_esc xs _ h]
  · rw [if_neg c1]
    have h2 : odd 0 = false := rfl
    rw [h2]
    cases ho : odd (rn xs i d)
    · rw [at_other xs _ h c1 c]
    · rw [at_esc xs _ h]
/-- Many places on, none a quote. -/
theorem steps_on (xs : List Int) (i d : Nat) : ∀ m : Nat, i + 1 + d + m ≤ xs.length → (∀ j, j < m → ¬ el xs (i + 1 + d + j) = 34) → at_ xs (odd (rn xs i d)) (i + 1 + d) = at_ xs (odd (rn xs i (d + m))) (i + 1 + (d + m))
  | 0, _, _ => rfl
  | m + 1, h, hc => by
    have ih := steps_on xs i d m (by omega) (fun j hj => hc j (by omega))
    have hs := step_on xs i (d + m) (by omega) (by have := hc m (by omega); rwa [show i + 1 + d + m = i + 1 + (d + m) from by omega] at this)
    rw [ih, hs]
    rfl
/-- A quote behind an even number of backslashes. -/
theorem quote_even (xs : List Int) (i d : Nat) (h : i + 1 + d < xs.length) (c : el xs (i + 1 + d) = 34) (ho : rn xs i d % 2 = 0) : at_ xs (odd (rn xs i d)) (i + 1 + d) = ((i + 1 + d : Nat) : Int) + 1 := by
  have h2 : odd (rn xs i d) = false := by unfold odd; simp; omega
  rw [h2, at_quote xs _ h c]
/-- A quote behind an odd number of backslashes. -/
theorem quote_odd (xs : List Int) (i d : Nat) (h : i + 1 + d < xs.length) (c : el xs (i + 1 + d) = 34) (ho : ¬ rn xs i d % 2 = 0) : at_ xs (odd (rn xs i d)) (i + 1 + d) = at_ xs (odd (rn xs i (d + 1))) (i + 1 + (d + 1)) := by
  have h2 : odd (rn xs i d) = true := by unfold odd; simp; omega
  have h3 : rn xs i (d + 1) = 0 := by rw [rn_succ, if_neg (by omega)]
  rw [h2, h3, at_esc xs _ h]
  rfl

/-! ### Counting back -/
theorem rn_le (xs : List Int) (i : Nat) : ∀ d, rn xs i d ≤ d
  | 0 => Nat.le_refl _
  | d + 1 => by have := rn_le xs i d; rw [rn_succ]; split <;> omega
theorem rn_back (xs : List Int) (i : Nat) : ∀ d e, e < rn xs i d → el xs (i + d - e) = 92
  | 0, e, h => by rw [rn_zero] at h; omega
  | d + 1, e, h => by
    rw [rn_succ] at h
    by_cases c : el xs (i + 1 + d) = 92
    · rw [if_pos c] at h
      cases e with
      | zero => rw [show i + (d + 1) - 0 = i + 1 + d from by omega]; exact c
      | succ e =>
        have := rn_back xs i d e (by omega)
        rwa [show i + (d + 1) - (e + 1) = i + d - e from by omega]
    · rw [if_neg c] at h; omega
theorem rn_stop (xs : List Int) (i : Nat) (hi : ¬ el xs i = 92) : ∀ d, ¬ el xs (i + d - rn xs i d) = 92
  | 0 => by rw [rn_zero]; exact hi
  | d + 1 => by
    have ih := rn_stop xs i hi d
    rw [rn_succ]
    by_cases c : el xs (i + 1 + d) = 92
    · rw [if_pos c, show i + (d + 1) - (rn xs i d + 1) = i + d - rn xs i d from by omega]; exact ih
    · rw [if_neg c, show i + (d + 1) - 0 = i + 1 + d from by omega]; exact c

end Go.Proofs.Qxb6603212a.Pl
