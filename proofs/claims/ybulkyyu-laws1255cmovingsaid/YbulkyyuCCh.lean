/- What stays: all blocks but those of S. A walk's thirteen cells. -/
import Derived.Test.YbulkyyuCLater
import Derived.Test.YbulkyyuCLaw
namespace Go.Proofs.Ybulkyyu.CMv
open Go.RowKit
open Go.Proofs.Ybulkyyu.CF (fI fD Mg)

/-- From w to w' only the blocks of S and new blocks are written. -/
structure Ch (S : Nat → Prop) (w w' : World) : Prop where
  os : w'.os = w.os
  tape : w'.tape = w.tape
  output : w'.output = w.output
  size : w.heap.size ≤ w'.heap.size
  block : ∀ k, k < w.heap.size → ¬ S k → w'.heap[k]? = w.heap[k]?
theorem Ch.refl (S : Nat → Prop) (w : World) : Ch S w w := ⟨rfl, rfl, rfl, Nat.le_refl _, fun _ _ _ => rfl⟩
theorem Ch.trans {S : Nat → Prop} {a b c : World} (h : Ch S a b) (k : Ch S b c) : Ch S a c :=
  ⟨k.os.trans h.os, k.tape.trans h.tape, k.output.trans h.output, Nat.le_trans h.size k.size, fun i hi hn => (k.block i (Nat.lt_of_lt_of_le hi h.size) hn).trans (h.block i hi hn)⟩
theorem Ch.mono {S T : Nat → Prop} {a b : World} (h : Ch S a b) (hs : ∀ k, S k → T k) : Ch T a b := ⟨h.os, h.tape, h.output, h.size, fun k hk hn => h.block k hk (fun e => hn (hs k e))⟩
theorem Ch.monoLt {S T : Nat → Prop} {a b : World} (h : Ch S a b) (hs : ∀ k, k < a.heap.size → S k → T k) : Ch T a b := ⟨h.os, h.tape, h.output, h.size, fun k hk hn => h.block k hk (fun e => hn (hs k hk e))⟩
theorem Ch.of {S : Nat → Prop} {w w' : World} {r : Option Nat} (h : w.grownBy w' r) (hr : ∀ k, r = some k → S k) : Ch S w w' :=
  ⟨h.os, h.tape, h.output, h.size, fun k hk hn => h.block k hk (fun e => hn (hr k e.symm))⟩
theorem Ch.ofNone {S : Nat → Prop} {w w' : World} (h : w.grownBy w' none) : Ch S w w' := Ch.of h (fun k e => by cases e)
theorem Ch.grown {S : Nat → Prop} {a w w' : World} {r : Option Nat} (h : Ch S a w) (hg : w.grownBy w' r) (hr : ∀ k, r = some k → k < a.heap.size → S k) : Ch S a w' :=
  ⟨hg.os.trans h.os, hg.tape.trans h.tape, hg.output.trans h.output, Nat.le_trans h.size hg.size, fun k hk hn => (hg.block k (Nat.lt_of_lt_of_le hk h.size) (fun e => hn (hr k e.symm hk))).trans (h.block k hk hn)⟩
theorem Ch.setCell {S : Nat → Prop} {a w : World} (h : Ch S a w) (b i : Nat) (v : Value) (hb : b < a.heap.size → S b) : Ch S a (w.setCell ⟨b, i, none⟩ v) :=
  h.grown (CSort.grown_setCell (CSort.grown_refl w (some b)) i v) (fun k e hk => by cases e; exact hb hk)
theorem Ch.drew {S : Nat → Prop} {a w : World} (h : Ch S a w) (q : Nat) : Ch S a (w.drewN q) := ⟨h.os, h.tape, h.output, h.size, h.block⟩
theorem Ch.alloc {S : Nat → Prop} {a w : World} (h : Ch S a w) (o : Obj) : Ch S a (w.alloc o) := h.grown (CSort.grown_alloc w o none) (fun k e => by cases e)
theorem heap_lt {w : World} {k : Nat} {o : Obj} (h : w.heap[k]? = some o) : k < w.heap.size := by
  rcases Nat.lt_or_ge k w.heap.size with hlt | hge
  · exact hlt
  · rw [Array.getElem?_eq_none hge] at h; cases h
theorem Ch.at {S : Nat → Prop} {w w' : World} {k : Nat} {o : Obj} (h : Ch S w w') (hk : w.heap[k]? = some o) (hn : ¬ S k) : w'.heap[k]? = some o := (h.block k (heap_lt hk) hn).trans hk
theorem Ch.below {S : Nat → Prop} {w w' : World} {B : Nat} (h : Ch S w w') (hB : B ≤ w.heap.size) (hs : ∀ k, k < B → ¬ S k) : Below B w w' := ⟨h.os, h.tape, h.output, h.size, fun k hk => h.block k (by omega) (hs k hk)⟩

/-- Block wb bears, from cell o on, the thirteen values v; elsewhere it is as c0. -/
def Wk (w : World) (wb o : Nat) (c0 : Array Value) (v : Nat → Value) : Prop :=
  ∃ cur, w.heap[wb]? = some (.cells cur 104 (0, 0)) ∧ cur.size = c0.size ∧ (∀ k, k < 13 → cur[o + k]? = some (v k)) ∧ ∀ i, (i < o ∨ o + 13 ≤ i) → cur[i]? = c0[i]?
def upd (v : Nat → Value) (k : Nat) (x : Value) : Nat → Value := fun i => if i = k then x else v i
theorem Wk.set {w : World} {wb o : Nat} {c0 : Array Value} {v : Nat → Value} (h : Wk w wb o c0 v) (k : Nat) (x : Value) (hk : k < 13) : Wk (w.setCell ⟨wb, o + k, none⟩ x) wb o c0 (upd v k x) := by
  obtain ⟨cur, a1, a2, a3, a4⟩ := h
  have hlt : o + k < cur.size := by
    have := a3 k hk
    rcases Nat.lt_or_ge (o + k) cur.size with hlt | hge
    · exact hlt
    · rw [Array.getElem?_eq_none hge] at this; cases this
  refine ⟨_, heap_setCell_same w wb (o + k) cur 104 x a1, by simpa using a2, fun j hj => ?_, fun i hi => ?_⟩
  · unfold upd
    by_cases e : j = k
    · subst e
      rw [if_pos rfl, Array.getElem?_setIfInBounds_self_of_lt hlt]
    · rw [if_neg e, Array.getElem?_setIfInBounds_ne (by omega)]
      exact a3 j hj
  · rw [Array.getElem?_setIfInBounds_ne (by omega)]
    exact a4 i hi
theorem Wk.cell {w : World} {wb o : Nat} {c0 : Array Value} {v : Nat → Value} (h : Wk w wb o c0 v) (k : Nat) (hk : k < 13) : w.cell? ⟨wb, o + k, none⟩ = some (v k) := by
  obtain ⟨cur, a1, _, a3, _⟩ := h
  rw [cell_of_row _ _ _ _ _ _ a1]
  exact a3 k hk
theorem Wk.frozen {w : World} {wb o : Nat} {c0 : Array Value} {v : Nat → Value} (h : Wk w wb o c0 v) (i : Nat) : w.frozen? ⟨wb, i, none⟩ = false := by
  obtain ⟨cur, a1, _⟩ := h
  exact frozen_of_row _ _ _ _ _ a1
theorem Wk.at {w w' : World} {wb o : Nat} {c0 : Array Value} {v : Nat → Value} (h : Wk w wb o c0 v) (he : w'.heap[wb]? = w.heap[wb]?) : Wk w' wb o c0 v := by
  obtain ⟨cur, a1, a2⟩ := h
  exact ⟨cur, he.trans a1, a2⟩
theorem Wk.lt {w : World} {wb o : Nat} {c0 : Array Value} {v : Nat → Value} (h : Wk w wb o c0 v) : wb < w.heap.size := by
  obtain ⟨cur, a1, _⟩ := h
  exact heap_lt a1

/-- A walk that has not set off. -/
def fresh (cb g : Nat) (x y : Int) : Nat → Value
  | 0 => .pointer (some ⟨cb, 0, none⟩) | 1 => .pointer (some ⟨g, 0, none⟩)
  | 2 => .float .f64 (fI x) | 3 => .float .f64 (fI y) | 4 => .float .f64 (fI x) | 5 => .float .f64 (fI y)
  | 6 => .float .f64 0 | 7 => .float .f64 0 | 8 => .float .f64 0 | 9 => .float .f64 0
  | _ => .int .i64 0
/-- A walk under way to (kx, ky) / 2^53, at speed 0. -/
def gone (cb g : Nat) (x y : Int) (kx ky ux uy dist : Nat) : Nat → Value
  | 0 => .pointer (some ⟨cb, 0, none⟩) | 1 => .pointer (some ⟨g, 0, none⟩)
  | 2 => .float .f64 (fI x) | 3 => .float .f64 (fI y) | 4 => .float .f64 (fD kx (-53)) | 5 => .float .f64 (fD ky (-53))
  | 6 => .float .f64 ux | 7 => .float .f64 uy | 8 => .float .f64 dist | 9 => .float .f64 0
  | 10 => .int .i64 0 | _ => .int .i64 9223372036854775807
/-- The generator: a Rand in block g over a PCG in block h. -/
def Rok (w : World) (g h : Nat) : Prop := (∃ hi lo : Nat, lo < 18446744073709551616 ∧ w.heap[h]? = some (.cells #[.int .u64 hi, .int .u64 lo] 139 (0, 0))) ∧ w.heap[g]? = some (.cells #[.iface 122 (.pointer (some ⟨h, 0, none⟩))] 137 (0, 0))
theorem Rok.at {w w' : World} {g h : Nat} (hr : Rok w g h) (h1 : w'.heap[h]? = w.heap[h]?) (h2 : w'.heap[g]? = w.heap[g]?) : Rok w' g h := by
  obtain ⟨⟨a, b, c, d⟩, e⟩ := hr
  exact ⟨⟨a, b, c, h1.trans d⟩, h2.trans e⟩
theorem Rok.ne {w : World} {g h : Nat} (hr : Rok w g h) : g ≠ h := fun e => by
  obtain ⟨⟨a, b, c, d⟩, e2⟩ := hr
  rw [e, d] at e2
  have := congrArg (fun o : Option Obj => o.map (fun o => match o with | .cells _ t _ => t | _ => 0)) e2
  exact absurd this (by simp)
theorem draw_any (g h : Nat) (w : World) (hr : Rok w g h) : Calls Yba.prog 68 #[.pointer (some ⟨g, 0, none⟩)] w fun e w' => ∃ k : Nat, e = .returned (.float .f64 (fD k (-53))) ∧ k < 2 ^ 53 ∧ Rok w' g h ∧ w.grownBy w' (some h) := by
  have hne := hr.ne
  obtain ⟨⟨hi, lo, hl, hp⟩, hg⟩ := hr
  refine (CRand.float_any g h hi lo w hl hp hg).mono ?_
  rintro e w1 ⟨a, b, k, rfl, hk, hb, hn1, hgr⟩
  exact ⟨k, rfl, hk, ⟨⟨a, b, hb, hn1⟩, (hgr.block g (heap_lt hg) (by simp; omega)).trans hg⟩, hgr⟩
end Go.Proofs.Ybulkyyu.CMv
