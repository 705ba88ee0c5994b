/-
  THE PLAIN LAW of seat b6602447a: no Go in sight. 'vm' is the one-pass machine over what is left of the bytes: state s, depth d, place j.
-/
namespace Go.Proofs.Qxb6602447a.Pl

/-- The bytes that end a bare literal. -/
def stopB (b : Int) : Bool := b == 44 || b == 125 || b == 93 || b == 32 || b == 9 || b == 10 || b == 13

/-- The machine. States: 0 start, 1 literal, 2 string, 3 string escape, 4 nest, 5 nest string, 6 nest escape. -/
def vm : List Int → Int → Int → Int → Int
  | [], s, _, j => if s = 1 then j else -1
  | b :: r, s, d, j =>
    if s = 0 then
      (if b = 34 then vm r 2 d (j + 1) else if b = 123 ∨ b = 91 then vm r 4 1 (j + 1) else if stopB b = true then -1 else vm r 1 d (j + 1))
    else if s = 1 then (if stopB b = true then j else vm r 1 d (j + 1))
    else if s = 2 then (if b = 34 then j + 1 else if b = 92 then vm r 3 d (j + 1) else vm r 2 d (j + 1))
    else if s = 3 then vm r 2 d (j + 1)
    else if s = 4 then
      (if b = 34 then vm r 5 d (j + 1) else if b = 123 ∨ b = 91 then vm r 4 (d + 1) (j + 1)
       else if b = 125 ∨ b = 93 then (if d - 1 = 0 then j + 1 else vm r 4 (d - 1) (j + 1)) else vm r 4 d (j + 1))
    else if s = 5 then (if b = 34 then vm r 4 d (j + 1) else if b = 92 then vm r 6 d (j + 1) else vm r 5 d (j + 1))
    else vm r 5 d (j + 1)

theorem wk {A j : Int} {n : Nat} (h : A = -1 ∨ (j + 1 ≤ A ∧ A ≤ j + 1 + (n : Int))) : A = -1 ∨ (j ≤ A ∧ A ≤ j + ((n + 1 : Nat) : Int)) := by omega
theorem wks {A j : Int} {n : Nat} (h : A = -1 ∨ (j + 1 ≤ A ∧ A ≤ j + 1 + (n : Int))) : A = -1 ∨ (j < A ∧ A ≤ j + ((n + 1 : Nat) : Int)) := by omega

/-- What it answers: -1, or a place between j and the end. -/
theorem vm_range (l : List Int) : ∀ s d j : Int, vm l s d j = -1 ∨ (j ≤ vm l s d j ∧ vm l s d j ≤ j + l.length) := by
  induction l with
  | nil => intro s d j; simp only [vm]; split <;> simp
  | cons b r ih =>
    intro s d j
    have h := fun s d => wk (ih s d (j + 1))
    simp only [vm, List.length_cons]
    repeat' split
    all_goals first
      | exact h _ _
      | (left; rfl)
      | (right; omega)

/-- At the start nothing but a place past j is found. -/
theorem vm_start (l : List Int) (d j : Int) : vm l 0 d j = -1 ∨ (j < vm l 0 d j ∧ vm l 0 d j ≤ j + l.length) := by
  cases l with
  | nil => left; simp [vm]
  | cons b r =>
    have h := fun s d => wks (vm_range r s d (j + 1))
    simp only [vm, List.length_cons, if_true]
    repeat' split
    all_goals first
      | exact h _ _
      | (left; rfl)
      | (right; omega)

/-- It hangs on where it stands by a shift alone. -/
theorem vm_shift (l : List Int) : ∀ s d j t : Int, 0 ≤ j → 0 ≤ t → vm l s d (j + t) = if vm l s d j < 0 then -1 else vm l s d j + t := by
  induction l with
  | nil =>
    intro s d j t hj ht
    simp only [vm]
    split <;> split <;> omega
  | cons b r ih =>
    intro s d j t hj ht
    have h := fun s d => ih s d (j + 1) t (by omega) ht
    have e : j + t + 1 = j + 1 + t := by omega
    have z1 : ∀ A : Int, 0 ≤ A → A + t = if A < 0 then -1 else A + t := fun A hA => by rw [if_neg (by omega)]
    have z2 : (-1 : Int) = if (-1 : Int) < 0 then -1 else -1 + t := by simp
    have A : ∀ s' d' : Int, vm (b :: r) s d j = vm r s' d' (j + 1) → vm (b :: r) s d (j + t) = vm r s' d' (j + t + 1) → vm (b :: r) s d (j + t) = if vm (b :: r) s d j < 0 then -1 else vm (b :: r) s d j + t := by
      intro s' d' h1 h2; rw [h1, h2, e]; exact h _ _
    have B : vm (b :: r) s d j = j + 1 → vm (b :: r) s d (j + t) = j + t + 1 → vm (b :: r) s d (j + t) = if vm (b :: r) s d j < 0 then -1 else vm (b :: r) s d j + t := by
      intro h1 h2; rw [h1, h2, e]; exact z1 _ (by omega)
    have C : vm (b :: r) s d j = j → vm (b :: r) s d (j + t) = j + t → vm (b :: r) s d (j + t) = if vm (b :: r) s d j < 0 then -1 else vm (b :: r) s d j + t := by
      intro h1 h2; rw [h1, h2]; exact z1 _ (by omega)
    have D : vm (b :: r) s d j = -1 → vm (b :: r) s d (j + t) = -1 → vm (b :: r) s d (j + t) = if vm (b :: r) s d j < 0 then -1 else vm (b :: r) s d j + t := by
      intro h1 h2; rw [h1, h2]; exact z2
    by_cases s0 : s = 0
    · by_cases c1 : b = 34
      · exact A 2 d (by simp [vm, s0, c1]) (by simp [vm, s0, c1])
      · by_cases c2 : b = 123 ∨ b = 91
        · exact A 4 1 (by simp [vm, s0, c1, c2]) (by simp [vm, s0, c1, c2])
        · by_cases c3 : stopB b = true
          · exact D (by simp [vm, s0, c1, c2, c3]) (by simp [vm, s0, c1, c2, c3])
          · exact A 1 d (by simp [vm, s0, c1, c2, c3]) (by simp [vm, s0, c1, c2, c3])
    by_cases s1 : s = 1
    · by_cases c3 : stopB b = true
      · exact C (by simp [vm, s1, c3]) (by simp [vm, s1, c3])
      · exact A 1 d (by simp [vm, s1, c3]) (by simp [vm, s1, c3])
    by_cases s2 : s = 2
    · by_cases c1 : b = 34
      · exact B (by simp [vm, s2, c1]) (by simp [vm, s2, c1])
      · by_cases c2 : b = 92
        · exact A 3 d (by simp [vm, s2, c2]) (by simp [vm, s2, c2])
        · exact A 2 d (by simp [vm, s2, c1, c2]) (by simp [vm, s2, c1, c2])
    by_cases s3 : s = 3
    · exact A 2 d (by simp [vm, s3]) (by simp [vm, s3])
    by_cases s4 : s = 4
    · by_cases c1 : b = 34
      · exact A 5 d (by simp [vm, s4, c1]) (by simp [vm, s4, c1])
      · by_cases c2 : b = 123 ∨ b = 91
        · exact A 4 (d + 1) (by simp [vm, s4, c1, c2]) (by simp [vm, s4, c1, c2])
        · by_cases c3 : b = 125 ∨ b = 93
          · by_cases c4 : d - 1 = 0
            · exact B (by simp [vm, s4, c1, c2, c3, c4]) (by simp [vm, s4, c1, c2, c3, c4])
            · exact A 4 (d - 1) (by simp [vm, s4, c1, c2, c3, c4]) (by simp [vm, s4, c1, c2, c3, c4])
          · exact A 4 d (by simp [vm, s4, c1, c2, c3]) (by simp [vm, s4, c1, c2, c3])
    by_cases s5 : s = 5
    · by_cases c1 : b = 34
      · exact A 4 d (by simp [vm, s5, c1]) (by simp [vm, s5, c1])
      · by_cases c2 : b = 92
        · exact A 6 d (by simp [vm, s5, c2]) (by simp [vm, s5, c2])
        · exact A 5 d (by simp [vm, s5, c1, c2]) (by simp [vm, s5, c1, c2])
    exact A 5 d (by simp [vm, s0, s1, s2, s3, s4, s5]) (by simp [vm, s0, s1, s2, s3, s4, s5])

/-- A string inside brackets: the machine comes back to the brackets where the string ends. -/
theorem vm_string (l : List Int) : ∀ d j : Int, 0 ≤ j →
    (vm l 5 d j = if vm l 2 0 j < 0 then -1 else vm (l.drop (vm l 2 0 j - j).toNat) 4 d (vm l 2 0 j)) ∧
    (vm l 6 d j = if vm l 3 0 j < 0 then -1 else vm (l.drop (vm l 3 0 j - j).toNat) 4 d (vm l 3 0 j)) := by
  induction l with
  | nil => intro d j hj; simp [vm]
  | cons b r ih =>
    intro d j hj
    obtain ⟨h5, h6⟩ := ih d (j + 1) (by omega)
    have g : ∀ s : Int, (if vm r s 0 (j + 1) < 0 then -1 else vm (r.drop (vm r s 0 (j + 1) - (j + 1)).toNat) 4 d (vm r s 0 (j + 1))) = (if vm r s 0 (j + 1) < 0 then -1 else vm ((b :: r).drop (vm r s 0 (j + 1) - j).toNat) 4 d (vm r s 0 (j + 1))) := by
      intro s
      by_cases hn : vm r s 0 (j + 1) < 0
      · rw [if_pos hn, if_pos hn]
      · have := vm_range r s 0 (j + 1)
        have e : (vm r s 0 (j + 1) - j).toNat = (vm r s 0 (j + 1) - (j + 1)).toNat + 1 := by omega
        rw [if_neg hn, if_neg hn, e, List.drop_succ_cons]
    rw [g] at h5 h6
    refine ⟨?_, ?_⟩
    · by_cases c1 : b = 34
      · have e1 : vm (b :: r) 5 d j = vm r 4 d (j + 1) := by simp [vm, c1]
        have e2 : vm (b :: r) 2 0 j = j + 1 := by simp [vm, c1]
        have e3 : (j + 1 - j).toNat = 1 := by omega
        rw [e1, e2, if_neg (by omega), e3]; rfl
      · by_cases c2 : b = 92
        · have e1 : vm (b :: r) 5 d j = vm r 6 d (j + 1) := by simp [vm, c2]
          have e2 : vm (b :: r) 2 0 j = vm r 3 0 (j + 1) := by simp [vm, c2]
          rw [e1, e2]; exact h6
        · have e1 : vm (b :: r) 5 d j = vm r 5 d (j + 1) := by simp [vm, c1, c2]
          have e2 : vm (b :: r) 2 0 j = vm r 2 0 (j + 1) := by simp [vm, c1, c2]
          rw [e1, e2]; exact h5
    · have e1 : vm (b :: r) 6 d j = vm r 5 d (j + 1) := by simp [vm]
      have e2 : vm (b :: r) 3 0 j = vm r 2 0 (j + 1) := by simp [vm]
      rw [e1, e2]; exact h5

/-- What it finds hangs on the bytes ahead of it alone (a literal apart, which ends where its bytes end). -/
theorem vm_prefix (l : List Int) : ∀ s d j e : Int, 0 ≤ j → vm l s d j = e → 0 ≤ e →
    (s ≠ 1 → s ≠ 0 → ∀ t : List Int, vm (l.take (e - j).toNat ++ t) s d j = e) ∧ vm (l.take (e - j).toNat) s d j = e := by
  induction l with
  | nil =>
    intro s d j e hj h he
    simp only [vm] at h
    split at h
    · next h1 => subst h1; subst h; simp [vm]
    · omega
  | cons b r ih =>
    intro s d j e hj h he
    have hr := vm_range (b :: r) s d j
    have key : ∀ s' d' : Int, vm r s' d' (j + 1) = e → (e - j).toNat = (e - (j + 1)).toNat + 1 := by
      intro s' d' h'
      have := vm_range r s' d' (j + 1)
      omega
    have stepA : ∀ s' d' : Int, vm (b :: r) s d j = vm r s' d' (j + 1) → (∀ r', vm (b :: r') s d j = vm r' s' d' (j + 1)) → (s ≠ 1 → s ≠ 0 → s' ≠ 1 ∧ s' ≠ 0) →
        (s ≠ 1 → s ≠ 0 → ∀ t : List Int, vm ((b :: r).take (e - j).toNat ++ t) s d j = e) ∧ vm ((b :: r).take (e - j).toNat) s d j = e := by
      intro s' d' h1 h2 h3
      have h4 : vm r s' d' (j + 1) = e := by rw [← h1]; exact h
      obtain ⟨i1, i2⟩ := ih s' d' (j + 1) e (by omega) h4 he
      have hk := key s' d' h4
      rw [hk, List.take_succ_cons]
      refine ⟨fun g1 g0 t => ?_, ?_⟩
      · rw [List.cons_append, h2]; exact i1 (h3 g1 g0).1 (h3 g1 g0).2 t
      · rw [h2]; exact i2
    have stop : e = j + 1 → (∀ r', vm (b :: r') s d j = j + 1) →
        (s ≠ 1 → s ≠ 0 → ∀ t : List Int, vm ((b :: r).take (e - j).toNat ++ t) s d j = e) ∧ vm ((b :: r).take (e - j).toNat) s d j = e := by
      intro he1 h2
      have hk : (e - j).toNat = 1 := by omega
      rw [hk, he1]
      refine ⟨fun _ _ t => ?_, ?_⟩
      · show vm (b :: ([] ++ t)) s d j = j + 1; exact h2 _
      · show vm (b :: []) s d j = j + 1; exact h2 _
    by_cases s0 : s = 0
    · by_cases c1 : b = 34
      · exact stepA 2 d (by simp [vm, s0, c1]) (fun r' => by simp [vm, s0, c1]) (by omega)
      · by_cases c2 : b = 123 ∨ b = 91
        · exact stepA 4 1 (by simp [vm, s0, c1, c2]) (fun r' => by simp [vm, s0, c1, c2]) (by omega)
        · by_cases c3 : stopB b = true
          · simp [vm, s0, c1, c2, c3] at h; omega
          · exact stepA 1 d (by simp [vm, s0, c1, c2, c3]) (fun r' => by simp [vm, s0, c1, c2, c3]) (by omega)
    by_cases s1 : s = 1
    · by_cases c3 : stopB b = true
      · have : e = j := by simp [vm, s1, c3] at h; omega
        subst this
        refine ⟨fun g => absurd s1 g, ?_⟩
        have hk : (e - e).toNat = 0 := by omega
        rw [hk]; simp [vm, s1]
      · exact stepA 1 d (by simp [vm, s1, c3]) (fun r' => by simp [vm, s1, c3]) (by omega)
    by_cases s2 : s = 2
    · by_cases c1 : b = 34
      · exact stop (by simp [vm, s2, c1] at h; omega) (fun r' => by simp [vm, s2, c1])
      · by_cases c2 : b = 92
        · exact stepA 3 d (by simp [vm, s2, c2]) (fun r' => by simp [vm, s2, c2]) (by omega)
        · exact stepA 2 d (by simp [vm, s2, c1, c2]) (fun r' => by simp [vm, s2, c1, c2]) (by omega)
    by_cases s3 : s = 3
    · exact stepA 2 d (by simp [vm, s3]) (fun r' => by simp [vm, s3]) (by omega)
    by_cases s4 : s = 4
    · by_cases c1 : b = 34
      · exact stepA 5 d (by simp [vm, s4, c1]) (fun r' => by simp [vm, s4, c1]) (by omega)
      · by_cases c2 : b = 123 ∨ b = 91
        · exact stepA 4 (d + 1) (by simp [vm, s4, c1, c2]) (fun r' => by simp [vm, s4, c1, c2]) (by omega)
        · by_cases c3 : b = 125 ∨ b = 93
          · by_cases c4 : d - 1 = 0
            · exact stop (by simp [vm, s4, c1, c2, c3, c4] at h; omega) (fun r' => by simp [vm, s4, c1, c2, c3, c4])
            · exact stepA 4 (d - 1) (by simp [vm, s4, c1, c2, c3, c4]) (fun r' => by simp [vm, s4, c1, c2, c3, c4]) (by omega)
          · exact stepA 4 d (by simp [vm, s4, c1, c2, c3]) (fun r' => by simp [vm, s4, c1, c2, c3]) (by omega)
    by_cases s5 : s = 5
    · by_cases c1 : b = 34
      · exact stepA 4 d (by simp [vm, s5, c1]) (fun r' => by simp [vm, s5, c1]) (by omega)
      · by_cases c2 : b = 92
        · exact stepA 6 d (by simp [vm, s5, c2]) (fun r' => by simp [vm, s5, c2]) (by omega)
        · exact stepA 5 d (by simp [vm, s5, c1, c2]) (fun r' => by simp [vm, s5, c1, c2]) (by omega)
    exact stepA 5 d (by simp [vm, s0, s1, s2, s3, s4, s5]) (fun r' => by simp [vm, s0, s1, s2, s3, s4, s5]) (by omega)

/-! ### The machine's steps over the bytes xs at place k, as the walks meet them -/
/-- The byte at place j. -/
def el (xs : List Int) (j : Nat) : Int := xs.getD j 0
/-- The machine over xs from place k on. -/
def at_ (xs : List Int) (s d : Int) (k : Nat) : Int := vm (xs.drop k) s d k

theorem drop_el (xs : List Int) (k : Nat) (h : k < xs.length) : xs.drop k = el xs k :: xs.drop (k + 1) := by
  rw [List.drop_eq_getElem_cons h]; simp [el, h]
theorem at_end (xs : List Int) (s d : Int) (k : Nat) (h : ¬ k < xs.length) : at_ xs s d k = if s = 1 then (k : Int) else -1 := by
  unfold at_; rw [List.drop_eq_nil_of_le (by omega)]; rfl
theorem at_go (xs : List Int) (s d s' d' : Int) (k : Nat) (h : k < xs.length) (hs : vm (el xs k :: xs.drop (k + 1)) s d k = vm (xs.drop (k + 1)) s' d' ((k : Int) + 1)) : at_ xs s d k = at_ xs s' d' (k + 1) := by
  unfold at_; rw [drop_el xs k h, hs]; simp
theorem at_is (xs : List Int) (s d : Int) (k : Nat) (h : k < xs.length) (r : Int) (hs : vm (el xs k :: xs.drop (k + 1)) s d k = r) : at_ xs s d k = r := by
  unfold at_; rw [drop_el xs k h, hs]

-- a string
theorem s2_quote (xs : List Int) (d : Int) (k : Nat) (h : k < xs.length) (c : el xs k = 34) : at_ xs 2 d k = (k : Int) + 1 := at_is xs 2 d k h _ (by simp [vm, c])
theorem s2_back (xs : List Int) (d : Int) (k : Nat) (h : k < xs.length) (c : el xs k = 92) : at_ xs 2 d k = at_ xs 3 d (k + 1) := at_go xs 2 d 3 d k h (by simp [vm, c])
theorem s2_other (xs : List Int) (d : Int) (k : Nat) (h : k < xs.length) (c : ¬ el xs k = 34) (c' : ¬ el xs k = 92) : at_ xs 2 d k = at_ xs 2 d (k + 1) := at_go xs 2 d 2 d k h (by simp [vm, c, c'])
theorem s3_any (xs : List Int) (d : Int) (k : Nat) : at_ xs 3 d k = at_ xs 2 d (k + 1) := by
  by_cases h : k < xs.length
  · exact at_go xs 3 d 2 d k h (by simp [vm])
  · rw [at_end xs 3 d k h, at_end xs 2 d (k + 1) (by omega)]; simp
theorem s2_two (xs : List Int) (d : Int) (k : Nat) (h : k < xs.length) (c : el xs k = 92) : at_ xs 2 d k = at_ xs 2 d (k + 2) := by rw [s2_back xs d k h c, s3_any]

-- a literal
theorem s1_stop (xs : List Int) (d : Int) (k : Nat) (h : k < xs.length) (c : stopB (el xs k) = true) : at_ xs 1 d k = (k : Int) := at_is xs 1 d k h _ (by simp [vm, c])
theorem s1_other (xs : List Int) (d : Int) (k : Nat) (h : k < xs.length) (c : stopB (el xs k) = false) : at_ xs 1 d k = at_ xs 1 d (k + 1) := at_go xs 1 d 1 d k h (by simp [vm, c])
theorem s1_end (xs : List Int) (d : Int) (k : Nat) (h : ¬ k < xs.length) : at_ xs 1 d k = (k : Int) := by rw [at_end xs 1 d k h]; simp

-- brackets
theorem s4_quote (xs : List Int) (d : Int) (k : Nat) (h : k < xs.length) (c : el xs k = 34) : at_ xs 4 d k = at_ xs 5 d (k + 1) := at_go xs 4 d 5 d k h (by simp [vm, c])
theorem s4_open (xs : List Int) (d : Int) (k : Nat) (h : k < xs.length) (c : el xs k = 123 ∨ el xs k = 91) : at_ xs 4 d k = at_ xs 4 (d + 1) (k + 1) := at_go xs 4 d 4 (d + 1) k h (by rcases c with c | c <;> simp [vm, c])
theorem s4_last (xs : List Int) (d : Int) (k : Nat) (h : k < xs.length) (c : el xs k = 125 ∨ el xs k = 93) (e : d - 1 = 0) : at_ xs 4 d k = (k : Int) + 1 := at_is xs 4 d k h _ (by rcases c with c | c <;> simp [vm, c, e])
theorem s4_shut (xs : List Int) (d : Int) (k : Nat) (h : k < xs.length) (c : el xs k = 125 ∨ el xs k = 93) (e : ¬ d - 1 = 0) : at_ xs 4 d k = at_ xs 4 (d - 1) (k + 1) := at_go xs 4 d 4 (d - 1) k h (by rcases c with c | c <;> simp [vm, c, e])
theorem s4_other (xs : List Int) (d : Int) (k : Nat) (h : k < xs.length) (c1 : ¬ el xs k = 34) (c2 : ¬ el xs k = 123) (c3 : ¬ el xs k = 91) (c4 : ¬ el xs k = 125) (c5 : ¬ el xs k = 93) : at_ xs 4 d k = at_ xs 4 d (k + 1) := at_go xs 4 d 4 d k h (by simp [vm, c1, c2, c3, c4, c5])
theorem s5_quote (xs : List Int) (d : Int) (k : Nat) (h : k < xs.length) (c : el xs k = 34) : at_ xs 5 d k = at_ xs 4 d (k + 1) := at_go xs 5 d 4 d k h (by simp [vm, c])
theorem s5_back (xs : List Int) (d : Int) (k : Nat) (h : k < xs.length) (c : el xs k = 92) : at_ xs 5 d k = at_ xs 6 d (k + 1) := at_go xs 5 d 6 d k h (by simp [vm, c])
theorem s5_other (xs : List Int) (d : Int) (k : Nat) (h : k < xs.length) (c : ¬ el xs k = 34) (c' : ¬ el xs k = 92) : at_ xs 5 d k = at_ xs 5 d (k + 1) := at_go xs 5 d 5 d k h (by simp [vm, c, c'])
theorem s6_any (xs : List Int) (d : Int) (k : Nat) (h : k < xs.length) : at_ xs 6 d k = at_ xs 5 d (k + 1) := at_go xs 6 d 5 d k h (by simp [vm])

-- the start
theorem s0_quote (xs : List Int) (d : Int) (k : Nat) (h : k < xs.length) (c : el xs k = 34) : at_ xs 0 d k = at_ xs 2 d (k + 1) := at_go xs 0 d 2 d k h (by simp [vm, c])
theorem s0_open (xs : List Int) (d : Int) (k : Nat) (h : k < xs.length) (c : el xs k = 123 ∨ el xs k = 91) : at_ xs 0 d k = at_ xs 4 1 (k + 1) := at_go xs 0 d 4 1 k h (by rcases c with c | c <;> simp [vm, c])
theorem s0_stop (xs : List Int) (d : Int) (k : Nat) (h : k < xs.length) (c1 : ¬ el xs k = 34) (c2 : ¬ el xs k = 123) (c3 : ¬ el xs k = 91) (c : stopB (el xs k) = true) : at_ xs 0 d k = -1 := at_is xs 0 d k h _ (by simp [vm, c1, c2, c3, c])
theorem s0_other (xs : List Int) (d : Int) (k : Nat) (h : k < xs.length) (c1 : ¬ el xs k = 34) (c2 : ¬ el xs k = 123) (c3 : ¬ el xs k = 91) (c : stopB (el xs k) = false) : at_ xs 0 d k = at_ xs 1 d (k + 1) := at_go xs 0 d 1 d k h (by simp [vm, c1, c2, c3, c])

/-- The depth that no bracket is open with is of no account outside brackets. -/
theorem vm_depth (l : List Int) : ∀ (s d d' j : Int), s = 1 ∨ s = 2 ∨ s = 3 → vm l s d j = vm l s d' j := by
  induction l with
  | nil => intro s d d' j _; rfl
  | cons b r ih =>
    intro s d d' j h
    have i1 := fun j => ih 1 d d' j (.inl rfl)
    have i2 := fun j => ih 2 d d' j (.inr (.inl rfl))
    have i3 := fun j => ih 3 d d' j (.inr (.inr rfl))
    rcases h with h | h | h <;> subst h
    · simp [vm, i1]
    · simp [vm, i2, i3]
    · simp [vm, i2]
theorem at_depth (xs : List Int) (s d d' : Int) (k : Nat) (h : s = 1 ∨ s = 2 ∨ s = 3) : at_ xs s d k = at_ xs s d' k := vm_depth _ s d d' _ h

theorem at_range (xs : List Int) (s d : Int) (k : Nat) (h : k ≤ xs.length) : at_ xs s d k = -1 ∨ ((k : Int) ≤ at_ xs s d k ∧ at_ xs s d k ≤ xs.length) := by
  have := vm_range (xs.drop k) s d k
  unfold at_
  simp only [List.length_drop] at this
  omega
theorem at_start (xs : List Int) (d : Int) (k : Nat) (h : k ≤ xs.length) : at_ xs 0 d k = -1 ∨ ((k : Int) < at_ xs 0 d k ∧ at_ xs 0 d k ≤ xs.length) := by
  have := vm_start (xs.drop k) d k
  unfold at_
  simp only [List.length_drop] at this
  omega

/-- A literal always ends, at j or later. -/
theorem vm_lit (l : List Int) : ∀ d j : Int, j ≤ vm l 1 d j := by
  induction l with
  | nil => intro d j; simp [vm]
  | cons b r ih =>
    intro d j
    have h := ih d (j + 1)
    cases hs : stopB b <;> simp [vm, hs]
    omega
theorem at_lit (xs : List Int) (d : Int) (k : Nat) (_h : k ≤ xs.length) : (k : Int) ≤ at_ xs 1 d k := vm_lit _ d k

/-- A string inside brackets, over xs: the machine goes on where the string ends. -/
theorem s5_string (xs : List Int) (d : Int) (k e : Nat) (h : at_ xs 2 0 k = (e : Int)) : at_ xs 5 d k = at_ xs 4 d e := by
  unfold at_ at h ⊢
  rw [(vm_string (xs.drop k) d k (by omega)).1, h, if_neg (by omega)]
  by_cases hk : k ≤ xs.length
  · have := vm_range (xs.drop k) 2 0 k
    rw [h] at this
    rw [List.drop_drop]
    congr 2
    omega
  · rw [List.drop_eq_nil_of_le (by omega)] at h
    simp [vm] at h
theorem s5_none (xs : List Int) (d : Int) (k : Nat) (h : at_ xs 2 0 k < 0) : at_ xs 5 d k = -1 := by
  unfold at_ at h ⊢
  rw [(vm_string (xs.drop k) d k (by omega)).1, if_pos h]

end Go.Proofs.Qxb6602447a.Pl
