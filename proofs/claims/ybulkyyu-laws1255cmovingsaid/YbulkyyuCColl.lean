/- What the nine cells hold: the others within reach, once each; sorted: the model's list. No Go here. -/
import Derived.Test.YbulkyyuCGrid
import Derived.Test.YbulkyyuCRow
namespace Go.Proofs.Ybulkyyu.CMap
open Go.Sort
open Go.Proofs.Ybulkyyu.CLaw (sel ms)

/-- The m-th of the nine cells around c. -/
def kk (c : Int × Int) (m : Nat) : Int × Int := (c.1 + ((m / 3 : Nat) : Int) - 1, c.2 + ((m % 3 : Nat) : Int) - 1)
/-- The nodes of cell k that count. -/
def G (K : Nat → Int × Int) (n : Nat) (p : Nat → Bool) (k : Int × Int) : List Nat := (mem K n k).filter p
def col (K : Nat → Int × Int) (n : Nat) (p : Nat → Bool) (c : Int × Int) : Nat → List Nat
  | 0 => []
  | m + 1 => col K n p c m ++ G K n p (kk c m)

theorem mem_G (K : Nat → Int × Int) (n : Nat) (p : Nat → Bool) (k : Int × Int) (j : Nat) : j ∈ G K n p k ↔ (j < n ∧ p j = true) ∧ K j = k := by
  unfold G mem
  simp only [List.mem_filter, List.mem_range, decide_eq_true_eq]
  constructor
  · rintro ⟨⟨a, b⟩, c⟩; exact ⟨⟨a, c⟩, b⟩
  · rintro ⟨⟨a, c⟩, b⟩; exact ⟨⟨a, b⟩, c⟩
theorem nodup_filter {l : List Nat} (p : Nat → Bool) (h : l.Nodup) : (l.filter p).Nodup := List.Pairwise.filter p h
theorem nodup_G (K : Nat → Int × Int) (n : Nat) (p : Nat → Bool) (k : Int × Int) : (G K n p k).Nodup := nodup_filter _ (nodup_filter _ List.nodup_range)

theorem col_mem (K : Nat → Int × Int) (n : Nat) (p : Nat → Bool) (c : Int × Int) : ∀ m j, j ∈ col K n p c m ↔ (j < n ∧ p j = true) ∧ ∃ m', m' < m ∧ kk c m' = K j := by
  intro m
  induction m with
  | zero => intro j; simp [col]
  | succ m ih =>
    intro j
    unfold col
    rw [List.mem_append, ih, mem_G]
    constructor
    · rintro (⟨h, m', h1, h2⟩ | ⟨h, h2⟩)
      · exact ⟨h, m', by omega, h2⟩
      · exact ⟨h, m, by omega, h2.symm⟩
    · rintro ⟨h, m', h1, h2⟩
      by_cases e : m' = m
      · exact .inr ⟨h, by rw [← h2, e]⟩
      · exact .inl ⟨h, m', by omega, h2⟩
theorem kk_inj (c : Int × Int) {a b : Nat} (h : kk c a = kk c b) : a = b := by
  unfold kk at h
  simp only [Prod.mk.injEq] at h
  omega
theorem col_nodup (K : Nat → Int × Int) (n : Nat) (p : Nat → Bool) (c : Int × Int) : ∀ m, (col K n p c m).Nodup := by
  intro m
  induction m with
  | zero => exact List.nodup_nil
  | succ m ih =>
    unfold col
    rw [List.nodup_append]
    refine ⟨ih, nodup_G .., fun a ha b hb e => ?_⟩
    subst e
    obtain ⟨_, m', h1, h2⟩ := (col_mem K n p c m a).1 ha
    obtain ⟨_, h3⟩ := (mem_G K n p (kk c m) a).1 hb
    have := kk_inj c (h2.trans h3)
    omega

/-- The nine cells hold every node that counts, where such a node lies in a cell beside c's. -/
theorem col_perm (K : Nat → Int × Int) (n : Nat) (p : Nat → Bool) (c : Int × Int) (h : ∀ j, j < n → p j = true → (c.1 - 1 ≤ (K j).1 ∧ (K j).1 ≤ c.1 + 1) ∧ c.2 - 1 ≤ (K j).2 ∧ (K j).2 ≤ c.2 + 1) :
    (col K n p c 9).Perm ((List.range n).filter p) := by
  rw [List.perm_ext_iff_of_nodup (col_nodup K n p c 9) (nodup_filter p List.nodup_range)]
  intro j
  rw [col_mem, List.mem_filter, List.mem_range]
  constructor
  · rintro ⟨a, _⟩; exact a
  · rintro ⟨a, b⟩
    obtain ⟨⟨h1, h2⟩, h3, h4⟩ := h j a b
    obtain ⟨u, hu⟩ : ∃ u : Nat, (u : Int) = (K j).1 - c.1 + 1 := ⟨((K j).1 - c.1 + 1).toNat, by omega⟩
    obtain ⟨v, hv⟩ : ∃ v : Nat, (v : Int) = (K j).2 - c.2 + 1 := ⟨((K j).2 - c.2 + 1).toNat, by omega⟩
    refine ⟨⟨a, b⟩, u * 3 + v, by omega, ?_⟩
    unfold kk
    rw [show (u * 3 + v) / 3 = u by omega, show (u * 3 + v) % 3 = v by omega]
    exact Prod.ext (by show c.1 + (u : Int) - 1 = _; omega) (by show c.2 + (v : Int) - 1 = _; omega)

theorem G_len (K : Nat → Int × Int) (n : Nat) (p : Nat → Bool) (k : Int × Int) : (G K n p k).length ≤ n := Nat.le_trans (List.length_filter_le _ _) (mem_len K n k)
theorem col_len (K : Nat → Int × Int) (n : Nat) (p : Nat → Bool) (c : Int × Int) : ∀ m, (col K n p c m).length ≤ m * n := by
  intro m
  induction m with
  | zero => simp [col]
  | succ m ih =>
    unfold col
    rw [List.length_append, Nat.succ_mul]
    have := G_len K n p (kk c m)
    omega

/-- Sorted, it is the ascending list. -/
theorem sorted_col (l : List Nat) (q : List Nat) (d' : Array Int) (hp : l.Perm q) (hq : q.Pairwise (· < ·)) (hP : PermIn 0 l.length (l.map (fun (j : Nat) => (j : Int))).toArray d') (hS : SortedIn ltInt 0 l.length d') : d'.toList = q.map (fun (j : Nat) => (j : Int)) := by
  have hsz : d'.size = l.length := by rw [hP.1]; simp
  have e1 : (d'.extract 0 l.length).toList = d'.toList := by rw [← hsz]; simp
  have e2 : ((l.map (fun (j : Nat) => (j : Int))).toArray.extract 0 l.length).toList = l.map (fun (j : Nat) => (j : Int)) := by simp [List.take_of_length_le]
  have hperm := hP.2.2
  rw [e1, e2] at hperm
  refine List.Perm.eq_of_pairwise (le := fun a b : Int => a ≤ b) (fun a b _ _ h1 h2 => Int.le_antisymm h1 h2) ?_ ?_ (hperm.trans (hp.map _))
  · rw [List.pairwise_iff_getElem]
    intro i j hi hj hij
    have := hS i j (Nat.zero_le _) hij (by rw [← hsz]; simpa using hj)
    simp only [ltInt, decide_eq_false_iff_not, Int.not_lt] at this
    have hi' : i < d'.size := by simpa using hi
    have hj' : j < d'.size := by simpa using hj
    rw [getElem!_pos d' i hi', getElem!_pos d' j hj'] at this
    simpa using this
  · rw [List.pairwise_map]
    exact hq.imp fun h => by omega
end Go.Proofs.Ybulkyyu.CMap
