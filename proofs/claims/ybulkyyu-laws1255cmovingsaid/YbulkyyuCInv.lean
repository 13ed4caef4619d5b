/- The plain side of the two partitions: what the scans keep, and what the swaps make of it. -/
import Derived.Sort.AssemblyPlain
namespace Go.Proofs.Ybulkyyu.CSort
open Go.Sort

structure Inv (q : Int → Bool) (a b : Nat) (p : Int) (d0 d : Array Int) (i j : Nat) : Prop where
  size : d.size = d0.size
  bs : b ≤ d.size
  perm : PermIn a b d0 d
  piv : d[a]! = p
  ai : a < i
  ij : i ≤ j + 1
  jb : j < b
  lo : ∀ t, a < t → t < i → q d[t]! = true
  hi : ∀ t, j < t → t < b → q d[t]! = false

theorem Inv.up {q : Int → Bool} {a b : Nat} {p : Int} {d0 d : Array Int} {i j : Nat} (h : Inv q a b p d0 d i j) (hij : i ≤ j) (hq : q d[i]! = true) : Inv q a b p d0 d (i + 1) j :=
  ⟨h.size, h.bs, h.perm, h.piv, by have := h.ai; omega, by omega, h.jb, fun t h1 h2 => by
    by_cases e : t = i
    · rw [e]; exact hq
    · exact h.lo t h1 (by omega), h.hi⟩
theorem Inv.down {q : Int → Bool} {a b : Nat} {p : Int} {d0 d : Array Int} {i j : Nat} (h : Inv q a b p d0 d i (j + 1)) (hij : i ≤ j + 1) (hq : q d[j + 1]! = false) : Inv q a b p d0 d i j :=
  ⟨h.size, h.bs, h.perm, h.piv, h.ai, hij, by have := h.jb; omega, h.lo, fun t h1 h2 => by
    by_cases e : t = j + 1
    · rw [e]; exact hq
    · exact h.hi t (by omega) h2⟩
theorem Inv.swap {q : Int → Bool} {a b : Nat} {p : Int} {d0 d : Array Int} {i j : Nat} (h : Inv q a b p d0 d i (j + 1)) (hij : i ≤ j + 1) (h1 : q d[i]! = false) (h2 : q d[j + 1]! = true) : Inv q a b p d0 (swp d i (j + 1)) (i + 1) j := by
  have hne : i ≠ j + 1 := fun e => by rw [e, h2] at h1; cases h1
  have ha := h.ai
  have hjb := h.jb
  have hbs := h.bs
  refine ⟨by rw [size_swp]; exact h.size, by rw [size_swp]; exact hbs, permIn_trans _ _ _ _ _ h.perm (swp_permIn d a b i (j + 1) (by omega) (by omega) (by omega) hjb hbs), ?_, by omega, by omega, by omega, fun t t1 t2 => ?_, fun t t1 t2 => ?_⟩
  · rw [swp_other d i (j + 1) a (by omega) (by omega)]; exact h.piv
  · by_cases e : t = i
    · rw [e, swp_left d i (j + 1) (by omega) hne]; exact h2
    · rw [swp_other d i (j + 1) t e (by omega)]; exact h.lo t t1 (by omega)
  · by_cases e : t = j + 1
    · rw [e, swp_right d i (j + 1) (by omega)]; exact h1
    · rw [swp_other d i (j + 1) t (by omega) e]; exact h.hi t (by omega) t2

/-- Behind the last swap: partition. -/
theorem Inv.fin {a b : Nat} {p : Int} {d0 d : Array Int} {i j : Nat} (h : Inv (fun x => ltInt x p) a b p d0 d i j) (hij : ¬ i ≤ j) :
    a ≤ j ∧ j < b ∧ PermIn a b d0 (swp d j a) ∧ (∀ t, a ≤ t → t < j → ltInt (swp d j a)[t]! (swp d j a)[j]! = true) ∧ (∀ t, j < t → t < b → ltInt (swp d j a)[t]! (swp d j a)[j]! = false) := by
  have ha := h.ai
  have hi := h.ij
  have hjb := h.jb
  have hbs := h.bs
  have hp : (swp d j a)[j]! = p := by
    by_cases e : j = a
    · rw [e, swp_right d a a (by omega)]; exact h.piv
    · rw [swp_left d j a (by omega) e]; exact h.piv
  refine ⟨by omega, hjb, permIn_trans _ _ _ _ _ h.perm (swp_permIn d a b j a (by omega) hjb (by omega) (by omega) hbs), fun t t1 t2 => ?_, fun t t1 t2 => ?_⟩
  · rw [hp]
    by_cases e : t = a
    · rw [e, swp_right d j a (by omega)]
      exact h.lo j (by omega) (by omega)
    · rw [swp_other d j a t (by omega) e]
      exact h.lo t (by omega) (by omega)
  · rw [hp, swp_other d j a t (by omega) (by omega)]
    exact h.hi t t1 t2

/-- At the end of partitionEqual. -/
theorem Inv.finEq {a b : Nat} {p : Int} {d0 d : Array Int} {i j : Nat} (h : Inv (fun x => !ltInt p x) a b p d0 d i j) (hij : ¬ i ≤ j) :
    a < i ∧ i ≤ b ∧ PermIn a b d0 d ∧ (∀ t, a ≤ t → t < i → ltInt p d[t]! = false) ∧ (∀ t, i ≤ t → t < b → ltInt p d[t]! = true) := by
  have ha := h.ai
  have hi := h.ij
  have hjb := h.jb
  refine ⟨ha, by omega, h.perm, fun t t1 t2 => ?_, fun t t1 t2 => ?_⟩
  · by_cases e : t = a
    · rw [e, h.piv]; exact swo_ltInt.irrefl p
    · have := h.lo t (by omega) t2
      simpa using this
  · have := h.hi t (by omega) t2
    simpa using this

/-- At the start. -/
theorem Inv.start (q : Int → Bool) {a b pv : Nat} {d : Array Int} (h1 : a ≤ pv) (h2 : pv < b) (h3 : b ≤ d.size) : Inv q a b (swp d a pv)[a]! d (swp d a pv) (a + 1) (b - 1) :=
  ⟨size_swp _ _ _, by rw [size_swp]; exact h3, swp_permIn d a b a pv (by omega) (by omega) h1 h2 h3, rfl, by omega, by omega, by omega, fun t t1 t2 => by omega, fun t t1 t2 => by omega⟩
end Go.Proofs.Ybulkyyu.CSort
