/- order2, median, medianAdjacent at int32: nothing of the row changes; the counter of the swaps does. -/
import Derived.Test.YbulkyyuCHeap
import Derived.Deep.CutBlock
namespace Go.Proofs.Ybulkyyu.CSort
open Go.RowKit Go.Sort

/-- Block h holds one int: the counter of the swaps. -/
def Cnt (w : World) (h : Nat) : Prop := ∃ n : Int, w.heap[h]? = some (.cells #[.int .i64 n] 3 (0, 0))
theorem Cnt.lt {w : World} {h : Nat} (k : Cnt w h) : h < w.heap.size := by
  obtain ⟨n, hg⟩ := k
  rcases Nat.lt_or_ge h w.heap.size with hlt | hge
  · exact hlt
  · rw [Array.getElem?_eq_none hge] at hg; cases hg
theorem Cnt.set {w : World} {h : Nat} (k : Cnt w h) (n : Int) : Cnt (w.setCell ⟨h, 0, none⟩ (.int .i64 n)) h := by
  obtain ⟨m, hg⟩ := k
  exact ⟨n, heap_setCell_same w h 0 _ 3 _ hg⟩
theorem Cnt.ne {w : World} {g cap : Nat} {d : Array Int} {h : Nat} (k : Cnt w h) (hR : Row w g cap d) : g ≠ h := by
  rintro rfl
  obtain ⟨n, hn⟩ := k
  obtain ⟨cur, hg, _⟩ := hR
  rw [hn] at hg
  cases hg
theorem Row.grown {w w' : World} {g cap : Nat} {d : Array Int} {h : Nat} (hR : Row w g cap d) (hg : w.grownBy w' (some h)) (hne : g ≠ h) : Row w' g cap d :=
  hR.same (hg.block g hR.lt (fun e => hne (by simpa using e)))

set_option maxRecDepth 100000 in
theorem order2_any (g cap h a b : Nat) (d : Array Int) (w : World) (ha : a < d.size) (hb : b < d.size) (hR : Row w g cap d) (hC : Cnt w h) :
    Calls Yba.prog 102 #[.slice (some ⟨g, 0, none⟩) d.size cap, .int .i64 a, .int .i64 b, .pointer (some ⟨h, 0, none⟩)] w fun e w' =>
      ∃ x y : Nat, e = .returned (.tuple #[.int .i64 x, .int .i64 y]) ∧ ((x = a ∧ y = b) ∨ (x = b ∧ y = a)) ∧ Cnt w' h ∧ w.grownBy w' (some h) := by
  obtain ⟨u, hu⟩ : ∃ u, u = d[a]! := ⟨_, rfl⟩
  obtain ⟨v, hv⟩ : ∃ v, v = d[b]! := ⟨_, rfl⟩
  have c1 := hR.cell a ha
  have c2 := hR.cell b hb
  rw [← hu] at c1
  rw [← hv] at c2
  clear hu hv
  have hr0 := grown_refl w (some h)
  have hC' := hC
  obtain ⟨n, hn⟩ := hC'
  have c3 : w.cell? ⟨h, 0, none⟩ = some (.int .i64 n) := by rw [cell_of_row w h 0 _ _ _ hn]; rfl
  have f3 : w.frozen? ⟨h, 0, none⟩ = false := frozen_of_row w h 0 _ _ hn
  have g1 : (a : Int) < (d.size : Int) := by omega
  have g2 : (b : Int) < (d.size : Int) := by omega
  have g3 : (0 : Int) ≤ (a : Int) := by omega
  have g4 : (0 : Int) ≤ (b : Int) := by omega
  clear hn
  go_enter Yba.func102, Yba.ntmps102
  go_wp2
  go_quiet ((go_at_call 79; exact Calls.quiet_of_same (less_any _ _ _)))
  go_wp2
  · go_ret2
    exact ⟨b, a, rfl, .inr ⟨rfl, rfl⟩, hC.set _, grown_setCell (grown_drewN hr0 _) _ _⟩
  · go_ret2
    exact ⟨a, b, rfl, .inl ⟨rfl, rfl⟩, hC, grown_drewN hr0 _⟩

set_option maxRecDepth 100000 in
theorem median_any (g cap h a b c : Nat) (d : Array Int) (w : World) (ha : a < d.size) (hb : b < d.size) (hc : c < d.size) (hR : Row w g cap d) (hC : Cnt w h) :
    Calls Yba.prog 95 #[.slice (some ⟨g, 0, none⟩) d.size cap, .int .i64 a, .int .i64 b, .int .i64 c, .pointer (some ⟨h, 0, none⟩)] w fun e w' =>
      ∃ x : Nat, e = .returned (.int .i64 x) ∧ (x = a ∨ x = b ∨ x = c) ∧ Cnt w' h ∧ w.grownBy w' (some h) := by
  have hne := hC.ne hR
  go_enter Yba.func95, Yba.ntmps95
  go_wp2_with fail
  refine (order2_any g cap h a b d w ha hb hR hC).mono ?_
  rintro e1 w1 ⟨x, y, rfl, hxy, hC1, hg1⟩
  have hR1 := hR.grown hg1 hne
  go_wp2_with fail
  refine (order2_any g cap h y c d w1 (by omega) hc hR1 hC1).mono ?_
  rintro e2 w2 ⟨x2, y2, rfl, hxy2, hC2, hg2⟩
  have hR2 := hR1.grown hg2 hne
  go_wp2_with fail
  refine (order2_any g cap h x x2 d w2 (by omega) (by omega) hR2 hC2).mono ?_
  rintro e3 w3 ⟨x3, y3, rfl, hxy3, hC3, hg3⟩
  go_wp2_with fail
  go_ret
  exact ⟨y3, rfl, by omega, hC3, grown_trans (grown_trans hg1 hg2) hg3⟩

set_option maxRecDepth 100000 in
theorem medianAdj_any (g cap h a : Nat) (d : Array Int) (w : World) (h0 : 0 < a) (ha : a + 1 < d.size) (hd : d.size ≤ 4096) (hR : Row w g cap d) (hC : Cnt w h) :
    Calls Yba.prog 94 #[.slice (some ⟨g, 0, none⟩) d.size cap, .int .i64 a, .pointer (some ⟨h, 0, none⟩)] w fun e w' =>
      ∃ x : Nat, e = .returned (.int .i64 x) ∧ (a ≤ x + 1 ∧ x ≤ a + 1) ∧ Cnt w' h ∧ w.grownBy w' (some h) := by
  obtain ⟨a, rfl⟩ : ∃ a', a = a' + 1 := ⟨a - 1, by omega⟩
  go_enter Yba.func94, Yba.ntmps94
  go_wp2_with fail
  refine (median_any g cap h a (a + 1) (a + 2) d w (by omega) (by omega) (by omega) hR hC).mono ?_
  rintro e1 w1 ⟨x, rfl, hx, hC1, hg1⟩
  go_wp2_with fail
  go_ret
  exact ⟨x, rfl, by omega, hC1, hg1⟩
end Go.Proofs.Ybulkyyu.CSort
