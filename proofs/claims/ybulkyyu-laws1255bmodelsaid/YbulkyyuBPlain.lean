/- The plain side of the two laws on appendSpans: which spans a row of numbers gives. -/
namespace Go.Proofs.Ybulkyyu.BSpans

/-- z j and z (j + 1) stand in a row (mod 2^32). -/
def cons (z : Nat → Int) (j : Nat) : Bool := (z j + 1) % 4294967296 == z (j + 1)
def setLast (l : List (Nat × Nat)) (j : Nat) : List (Nat × Nat) := l.dropLast ++ [((l.getLastD (0, 0)).1, j)]
/-- The stretches (first place, last place) of the first k numbers. -/
def ix (z : Nat → Int) : Nat → List (Nat × Nat)
  | 0 => []
  | k + 1 => if (decide (0 < k) && cons z (k - 1)) = true then setLast (ix z k) k else ix z k ++ [(k, k)]

theorem ix_start (z : Nat → Int) (i : Nat) (h : i = 0 ∨ cons z (i - 1) = false) : ix z (i + 1) = ix z i ++ [(i, i)] := by
  rw [ix, if_neg]
  rcases h with rfl | h
  · simp
  · simp [h]

theorem setLast_snoc (l : List (Nat × Nat)) (i j k : Nat) : setLast (l ++ [(i, j)]) k = l ++ [(i, k)] := by
  simp [setLast]

theorem ix_next (z : Nat → Int) (i j : Nat) (h : ix z (j + 1) = ix z i ++ [(i, j)]) (hc : cons z j = true) : ix z (j + 1 + 1) = ix z i ++ [(i, j + 1)] := by
  rw [ix, if_pos (by simp [hc]), h, setLast_snoc]

theorem ix_len (z : Nat → Int) (k : Nat) : (ix z k).length ≤ k ∧ (0 < k → 0 < (ix z k).length) := by
  induction k with
  | zero => simp [ix]
  | succ k ih =>
    rw [ix]
    split
    · rename_i h
      simp only [Bool.and_eq_true, decide_eq_true_eq] at h
      have := ih.2 h.1
      simp [setLast]
      omega
    · simp
      omega

/-- The stretches l lie end to end from place a up to place b, each a run of consecutive numbers. -/
def Chain (z : Nat → Int) : Nat → List (Nat × Nat) → Nat → Prop
  | a, [], b => a = b
  | a, (i, j) :: t, b => i = a ∧ i ≤ j ∧ (∀ s, i ≤ s → s < j → cons z s = true) ∧ Chain z (j + 1) t b

theorem chain_snoc (z : Nat → Int) (l : List (Nat × Nat)) : ∀ (a b i j : Nat), Chain z a (l ++ [(i, j)]) b ↔ Chain z a l i ∧ i ≤ j ∧ (∀ s, i ≤ s → s < j → cons z s = true) ∧ j + 1 = b := by
  induction l with
  | nil =>
    intro a b i j
    simp only [List.nil_append, Chain]
    constructor
    · rintro ⟨rfl, h1, h2, h3⟩; exact ⟨rfl, h1, h2, h3⟩
    · rintro ⟨rfl, h1, h2, h3⟩; exact ⟨rfl, h1, h2, h3⟩
  | cons p t ih =>
    intro a b i j
    obtain ⟨p, q⟩ := p
    simp only [List.cons_append, Chain, ih]
    constructor
    · rintro ⟨h1, h2, h3, h4, h5⟩; exact ⟨⟨h1, h2, h3, h4⟩, h5⟩
    · rintro ⟨⟨h1, h2, h3, h4⟩, h5⟩; exact ⟨h1, h2, h3, h4, h5⟩

theorem snoc_of_pos : ∀ (l : List (Nat × Nat)), 0 < l.length → ∃ t i j, l = t ++ [(i, j)] := by
  intro l h
  refine ⟨l.dropLast, (l.getLast (by intro e; simp [e] at h)).1, (l.getLast (by intro e; simp [e] at h)).2, ?_⟩
  exact (List.dropLast_concat_getLast _).symm

theorem ix_chain (z : Nat → Int) (k : Nat) : Chain z 0 (ix z k) k := by
  induction k with
  | zero => rfl
  | succ k ih =>
    rw [ix]
    split
    · rename_i h
      simp only [Bool.and_eq_true, decide_eq_true_eq] at h
      obtain ⟨t, i, j, e⟩ := snoc_of_pos _ ((ix_len z k).2 h.1)
      rw [e] at ih ⊢
      rw [setLast_snoc, chain_snoc]
      rw [chain_snoc] at ih
      obtain ⟨h1, h2, h3, h4⟩ := ih
      refine ⟨h1, by omega, fun s hs1 hs2 => ?_, rfl⟩
      by_cases hj : s < j
      · exact h3 s hs1 hj
      · have : s = k - 1 := by omega
        rw [this]; exact h.2
    · rw [chain_snoc]
      exact ⟨ih, Nat.le_refl _, fun s h1 h2 => by omega, rfl⟩

/-- A row taken apart at a place. -/
theorem chain_app (z : Nat → Int) (l m : List (Nat × Nat)) : ∀ (a b : Nat), Chain z a (l ++ m) b → ∃ c, Chain z a l c ∧ Chain z c m b := by
  induction l with
  | nil => intro a b h; exact ⟨a, rfl, h⟩
  | cons p t ih =>
    intro a b h
    obtain ⟨p, q⟩ := p
    simp only [List.cons_append, Chain] at h
    obtain ⟨h1, h2, h3, h4⟩ := h
    obtain ⟨c, hc1, hc2⟩ := ih _ _ h4
    exact ⟨c, ⟨h1, h2, h3, hc1⟩, hc2⟩

theorem chain_le (z : Nat → Int) (l : List (Nat × Nat)) : ∀ (a b : Nat), Chain z a l b → a ≤ b := by
  induction l with
  | nil => intro a b h; exact Nat.le_of_eq h
  | cons p t ih =>
    intro a b h
    obtain ⟨p, q⟩ := p
    obtain ⟨h1, h2, _, h4⟩ := h
    have := ih _ _ h4
    omega

end Go.Proofs.Ybulkyyu.BSpans
