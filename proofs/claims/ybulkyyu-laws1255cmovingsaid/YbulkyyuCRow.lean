/- A row of int32 of the call's own, and what a swap does to it; cmp.Less. -/
import Derived.Test.YbulkyyuProg
import Derived.WalkKit
import Derived.Below
import Derived.Laws.Rows
import Derived.WalkLawsBesides
import Derived.WalkSpells
import Derived.Deep.QuietTactic
import Derived.BigQuiet
import Derived.BigRegion
import Derived.Sort.AssemblyPlain
namespace Go.Proofs.Ybulkyyu.CSort
open Go.RowKit Go.Sort

/-- Block g, a row of cap cells of int32, not frozen, begins with the numbers d. -/
def Row (w : World) (g cap : Nat) (d : Array Int) : Prop :=
  ∃ cur, w.heap[g]? = some (.cells cur 21 (0, 0)) ∧ cur.size = cap ∧ d.size ≤ cap ∧ ∀ j, j < d.size → cur[j]? = some (.int .i32 d[j]!)

theorem Row.cell {w : World} {g cap : Nat} {d : Array Int} (h : Row w g cap d) (j : Nat) (hj : j < d.size) : w.cell? ⟨g, j, none⟩ = some (.int .i32 d[j]!) := by
  obtain ⟨cur, hg, _, _, hc⟩ := h
  rw [cell_of_row w g j _ _ _ hg]
  exact hc j hj
theorem Row.frozen {w : World} {g cap : Nat} {d : Array Int} (h : Row w g cap d) (j : Nat) : w.frozen? ⟨g, j, none⟩ = false := by
  obtain ⟨cur, hg, _⟩ := h
  exact frozen_of_row w g j _ _ hg
theorem Row.same {w w' : World} {g cap : Nat} {d : Array Int} (h : Row w g cap d) (hb : w'.heap[g]? = w.heap[g]?) : Row w' g cap d := by
  obtain ⟨cur, hg, r⟩ := h
  exact ⟨cur, by rw [hb]; exact hg, r⟩
theorem Row.lt {w : World} {g cap : Nat} {d : Array Int} (h : Row w g cap d) : g < w.heap.size := by
  obtain ⟨cur, hg, _⟩ := h
  rcases Nat.lt_or_ge g w.heap.size with hlt | hge
  · exact hlt
  · rw [Array.getElem?_eq_none hge] at hg; cases hg
theorem Row.set {w : World} {g cap : Nat} {d : Array Int} (h : Row w g cap d) (i : Nat) (x : Int) : Row (w.setCell ⟨g, i, none⟩ (.int .i32 x)) g cap (d.setIfInBounds i x) := by
  obtain ⟨cur, hg, hs, hd, hc⟩ := h
  refine ⟨cur.setIfInBounds i (.int .i32 x), heap_setCell_same w g i cur 21 _ hg, by simpa using hs, by simpa using hd, fun j hj => ?_⟩
  rw [Array.size_setIfInBounds] at hj
  by_cases e : i = j
  · subst e
    have h1 : (cur.setIfInBounds i (.int .i32 x))[i]? = some (.int .i32 x) := by rw [Array.getElem?_setIfInBounds_self_of_lt (by omega)]
    have h2 : (d.setIfInBounds i x)[i]! = x := by simp [hj]
    rw [h1, h2]
  · have h1 : (cur.setIfInBounds i (.int .i32 x))[j]? = cur[j]? := Array.getElem?_setIfInBounds_ne e
    have h2 : (d.setIfInBounds i x)[j]! = d[j]! := by simp [Array.getElem!_eq_getD, Array.getD_eq_getD_getElem?, Array.getElem?_setIfInBounds_ne e]
    rw [h1, h2]
    exact hc j hj

theorem Row.drewN {w : World} {g cap : Nat} {d : Array Int} (h : Row w g cap d) (q : Nat) : Row (w.drewN q) g cap d := h
theorem Row.swap {w : World} {g cap : Nat} {d : Array Int} (h : Row w g cap d) (i j : Nat) : Row ((w.setCell ⟨g, i, none⟩ (.int .i32 d[j]!)).setCell ⟨g, j, none⟩ (.int .i32 d[i]!)) g cap (swp d i j) :=
  (h.set i d[j]!).set j d[i]!

/-- w' is w but for block g, and new blocks. -/
theorem grown_setCell {w w' : World} {g : Nat} (h : w.grownBy w' (some g)) (i : Nat) (v : Value) : w.grownBy (w'.setCell ⟨g, i, none⟩ v) (some g) :=
  ⟨h.os, h.tape, h.output, by rw [World.size_setCell]; exact h.size, fun k hk hne => by
    rw [heap_setCell_other w' ⟨g, i, none⟩ k v (fun e => hne (by rw [e]))]
    exact h.block k hk hne⟩
theorem grown_drewN {w w' : World} {r : Option Nat} (h : w.grownBy w' r) (q : Nat) : w.grownBy (w'.drewN q) r := ⟨h.os, h.tape, h.output, h.size, h.block⟩
theorem grown_trans {w w' w'' : World} {r : Option Nat} (h : w.grownBy w' r) (k : w'.grownBy w'' r) : w.grownBy w'' r :=
  ⟨k.os.trans h.os, k.tape.trans h.tape, k.output.trans h.output, Nat.le_trans h.size k.size, fun i hi hne => (k.block i (Nat.lt_of_lt_of_le hi h.size) hne).trans (h.block i hi hne)⟩
theorem grown_refl (w : World) (r : Option Nat) : w.grownBy w r := ⟨rfl, rfl, rfl, Nat.le_refl _, fun _ _ _ => rfl⟩

theorem less_any (x y : Int) (w : World) : Calls Yba.prog 79 #[.int .i32 x, .int .i32 y] w fun e w' => e = .returned (.bool (ltInt x y)) ∧ w' = w := by
  go_enter Yba.func79, Yba.ntmps79
  go_wp2
  go_ret
  exact ⟨by simp [ltInt], rfl⟩
end Go.Proofs.Ybulkyyu.CSort
