/- newWalk. -/
import Derived.Test.YbulkyyuCNext
namespace Go.Proofs.Ybulkyyu.CMv
open Go.RowKit
open Go.Proofs.Ybulkyyu.CF (fI fD Mg fInf)

set_option maxRecDepth 100000 in
theorem pcg_new (a b : Int) (w : World) : Calls Yba.prog 53 #[.int .u64 a, .int .u64 b] w fun e w' => ∃ p, e = .returned (.pointer (some ⟨p, 0, none⟩)) ∧ w.heap.size ≤ p ∧ w'.heap[p]? = some (.cells #[.int .u64 a, .int .u64 b] 139 (0, 0)) ∧ w.grownBy w' none := by
  go_enter Yba.func53, Yba.ntmps53
  go_wp2
  go_ret
  exact ⟨w.heap.size, rfl, Nat.le_refl _, heap_alloc_new w _, CSort.grown_alloc w _ none⟩
set_option maxRecDepth 100000 in
theorem rand_new (v : Value) (w : World) : Calls Yba.prog 52 #[.iface 122 v] w fun e w' => ∃ p, e = .returned (.pointer (some ⟨p, 0, none⟩)) ∧ w.heap.size ≤ p ∧ w'.heap[p]? = some (.cells #[.iface 122 v] 137 (0, 0)) ∧ w.grownBy w' none := by
  go_enter Yba.func52, Yba.ntmps52
  go_wp2
  go_ret
  exact ⟨w.heap.size, rfl, Nat.le_refl _, heap_alloc_new w _, CSort.grown_alloc w _ none⟩

theorem set13 (w : World) (b : Nat) (v0 v1 v2 v3 v4 v5 v6 v7 v8 v9 v10 v11 v12 c0 c1 c2 c3 c4 c5 c6 c7 c8 c9 c10 c11 c12 : Value) (hb : w.heap[b]? = some (.cells #[c0, c1, c2, c3, c4, c5, c6, c7, c8, c9, c10, c11, c12] 104 (0, 0))) :
    (((((((((((((w.setCell ⟨b, 0, none⟩ v0).setCell ⟨b, 1, none⟩ v1).setCell ⟨b, 2, none⟩ v2).setCell ⟨b, 3, none⟩ v3).setCell ⟨b, 4, none⟩ v4).setCell ⟨b, 5, none⟩ v5).setCell ⟨b, 6, none⟩ v6).setCell ⟨b, 7, none⟩ v7).setCell ⟨b, 8, none⟩ v8).setCell ⟨b, 9, none⟩ v9).setCell ⟨b, 10, none⟩ v10).setCell ⟨b, 11, none⟩ v11).setCell ⟨b, 12, none⟩ v12).heap[b]? = some (.cells #[v0, v1, v2, v3, v4, v5, v6, v7, v8, v9, v10, v11, v12] 104 (0, 0)) := by
  have r0 := heap_setCell_same _ b 0 _ 104 v0 hb
  simp only [List.setIfInBounds_toArray, List.set_cons_zero] at r0
  have r1 := heap_setCell_same _ b 1 _ 104 v1 r0
  simp only [List.setIfInBounds_toArray, List.set_cons_zero, List.set_cons_succ] at r1
  have r2 := heap_setCell_same _ b 2 _ 104 v2 r1
  simp only [List.setIfInBounds_toArray, List.set_cons_zero, List.set_cons_succ] at r2
  have r3 := heap_setCell_same _ b 3 _ 104 v3 r2
  simp only [List.setIfInBounds_toArray, List.set_cons_zero, List.set_cons_succ] at r3
  have r4 := heap_setCell_same _ b 4 _ 104 v4 r3
  simp only [List.setIfInBounds_toArray, List.set_cons_zero, List.set_cons_succ] at r4
  have r5 := heap_setCell_same _ b 5 _ 104 v5 r4
  simp only [List.setIfInBounds_toArray, List.set_cons_zero, List.set_cons_succ] at r5
  have r6 := heap_setCell_same _ b 6 _ 104 v6 r5
  simp only [List.setIfInBounds_toArray, List.set_cons_zero, List.set_cons_succ] at r6
  have r7 := heap_setCell_same _ b 7 _ 104 v7 r6
  simp only [List.setIfInBounds_toArray, List.set_cons_zero, List.set_cons_succ] at r7
  have r8 := heap_setCell_same _ b 8 _ 104 v8 r7
  simp only [List.setIfInBounds_toArray, List.set_cons_zero, List.set_cons_succ] at r8
  have r9 := heap_setCell_same _ b 9 _ 104 v9 r8
  simp only [List.setIfInBounds_toArray, List.set_cons_zero, List.set_cons_succ] at r9
  have r10 := heap_setCell_same _ b 10 _ 104 v10 r9
  simp only [List.setIfInBounds_toArray, List.set_cons_zero, List.set_cons_succ] at r10
  have r11 := heap_setCell_same _ b 11 _ 104 v11 r10
  simp only [List.setIfInBounds_toArray, List.set_cons_zero, List.set_cons_succ] at r11
  have r12 := heap_setCell_same _ b 12 _ 104 v12 r11
  simp only [List.setIfInBounds_toArray, List.set_cons_zero, List.set_cons_succ] at r12
  exact r12
theorem grown13 (w w' : World) (b : Nat) (v0 v1 v2 v3 v4 v5 v6 v7 v8 v9 v10 v11 v12 : Value) (h : w.grownBy w' none) (hb : w.heap.size ≤ b) : w.grownBy ((((((((((((((w'.setCell ⟨b, 0, none⟩ v0).setCell ⟨b, 1, none⟩ v1).setCell ⟨b, 2, none⟩ v2).setCell ⟨b, 3, none⟩ v3).setCell ⟨b, 4, none⟩ v4).setCell ⟨b, 5, none⟩ v5).setCell ⟨b, 6, none⟩ v6).setCell ⟨b, 7, none⟩ v7).setCell ⟨b, 8, none⟩ v8).setCell ⟨b, 9, none⟩ v9).setCell ⟨b, 10, none⟩ v10).setCell ⟨b, 11, none⟩ v11).setCell ⟨b, 12, none⟩ v12)) none :=
  (CF.grown_new_cell (CF.grown_new_cell (CF.grown_new_cell (CF.grown_new_cell (CF.grown_new_cell (CF.grown_new_cell (CF.grown_new_cell (CF.grown_new_cell (CF.grown_new_cell (CF.grown_new_cell (CF.grown_new_cell (CF.grown_new_cell (CF.grown_new_cell h _ _ _ hb) _ _ _ hb) _ _ _ hb) _ _ _ hb) _ _ _ hb) _ _ _ hb) _ _ _ hb) _ _ _ hb) _ _ _ hb) _ _ _ hb) _ _ _ hb) _ _ _ hb) _ _ _ hb)
theorem other13 (w : World) (b q : Nat) (v0 v1 v2 v3 v4 v5 v6 v7 v8 v9 v10 v11 v12 : Value) (h : q ≠ b) : ((((((((((((((w.setCell ⟨b, 0, none⟩ v0).setCell ⟨b, 1, none⟩ v1).setCell ⟨b, 2, none⟩ v2).setCell ⟨b, 3, none⟩ v3).setCell ⟨b, 4, none⟩ v4).setCell ⟨b, 5, none⟩ v5).setCell ⟨b, 6, none⟩ v6).setCell ⟨b, 7, none⟩ v7).setCell ⟨b, 8, none⟩ v8).setCell ⟨b, 9, none⟩ v9).setCell ⟨b, 10, none⟩ v10).setCell ⟨b, 11, none⟩ v11).setCell ⟨b, 12, none⟩ v12)).heap[q]? = w.heap[q]? := by
  rw [heap_setCell_other _ ⟨b, 12, none⟩ q _ h, heap_setCell_other _ ⟨b, 11, none⟩ q _ h, heap_setCell_other _ ⟨b, 10, none⟩ q _ h, heap_setCell_other _ ⟨b, 9, none⟩ q _ h, heap_setCell_other _ ⟨b, 8, none⟩ q _ h, heap_setCell_other _ ⟨b, 7, none⟩ q _ h, heap_setCell_other _ ⟨b, 6, none⟩ q _ h, heap_setCell_other _ ⟨b, 5, none⟩ q _ h, heap_setCell_other _ ⟨b, 4, none⟩ q _ h, heap_setCell_other _ ⟨b, 3, none⟩ q _ h, heap_setCell_other _ ⟨b, 2, none⟩ q _ h, heap_setCell_other _ ⟨b, 1, none⟩ q _ h, heap_setCell_other _ ⟨b, 0, none⟩ q _ h]

set_option maxRecDepth 100000 in
set_option maxHeartbeats 8000000 in
theorem new_walk (cb : Nat) (x y : Int) (w : World) (hs : w.cell? ⟨cb, 37, none⟩ = some (.int .u64 0)) :
    Calls Yba.prog 36 #[.pointer (some ⟨cb, 0, none⟩), .agg #[.int .u32 0, .float .f64 (fI x), .float .f64 (fI y)]] w fun e w' => ∃ g h, e = .returned (.agg #[.pointer (some ⟨cb, 0, none⟩), .pointer (some ⟨g, 0, none⟩), .float .f64 (fI x), .float .f64 (fI y), .float .f64 (fI x), .float .f64 (fI y), .float .f64 0, .float .f64 0, .float .f64 0, .float .f64 0, .int .i64 0, .int .i64 0, .int .i64 0]) ∧ w.heap.size ≤ g ∧ w.heap.size ≤ h ∧ Rok w' g h ∧ w.grownBy w' none := by
  have stf := CMap.st_float
  generalize fI x = FX at *
  generalize fI y = FY at *
  go_enter Yba.func36, Yba.ntmps36
  go_wp2
  obtain ⟨b1, b2, b3, hg⟩ := CF.three w (.cells #[.int .u32 0, .float .f64 FX, .float .f64 FY] 98 (0, 0)) (.cells #[.pointer none, .pointer none, .float .f64 0, .float .f64 0, .float .f64 0, .float .f64 0, .float .f64 0, .float .f64 0, .float .f64 0, .float .f64 0, .int .i64 0, .int .i64 0, .int .i64 0] 104 (0, 0)) (.cells #[.float .f64 FX, .float .f64 FY] 100 (0, 0))
  obtain ⟨V, hV⟩ : ∃ V, V = (((w.alloc (.cells #[.int .u32 0, .float .f64 FX, .float .f64 FY] 98 (0, 0))).alloc (.cells #[.pointer none, .pointer none, .float .f64 0, .float .f64 0, .float .f64 0, .float .f64 0, .float .f64 0, .float .f64 0, .float .f64 0, .float .f64 0, .int .i64 0, .int .i64 0, .int .i64 0] 104 (0, 0))).alloc (.cells #[.float .f64 FX, .float .f64 FY] 100 (0, 0))) := ⟨_, rfl⟩
  have hVs : V.heap.size = w.heap.size + 1 + 1 + 1 := by rw [hV, World.size_alloc, World.size_alloc, World.size_alloc]
  rw [← hV] at b1 b2 b3 hg ⊢
  obtain ⟨B, hB⟩ : ∃ B, B = w.heap.size := ⟨_, rfl⟩
  rw [← hB] at b1 b2 b3 hVs ⊢
  have HB : Hid (B = w.heap.size) := hB
  have hsV := hg.cell hs (by simp)
  have c0 : V.cell? ⟨B, 0, none⟩ = some (.int .u32 0) := by rw [cell_of_row _ _ _ _ _ _ b1]; rfl
  have d0 : V.cell? ⟨B + 1 + 1, 0, none⟩ = some (.float .f64 FX) := by rw [cell_of_row _ _ _ _ _ _ b3]; rfl
  have d1 : V.cell? ⟨B + 1 + 1, 1, none⟩ = some (.float .f64 FY) := by rw [cell_of_row _ _ _ _ _ _ b3]; rfl
  have HP : Hid (∀ (a b : Int) (w : World), Calls Yba.prog 53 #[.int .u64 a, .int .u64 b] w fun e w' => ∃ p, e = .returned (.pointer (some ⟨p, 0, none⟩)) ∧ w.heap.size ≤ p ∧ w'.heap[p]? = some (.cells #[.int .u64 a, .int .u64 b] 139 (0, 0)) ∧ w.grownBy w' none) := pcg_new
  have HN : Hid (∀ (v : Value) (w : World), Calls Yba.prog 52 #[.iface 122 v] w fun e w' => ∃ p, e = .returned (.pointer (some ⟨p, 0, none⟩)) ∧ w.heap.size ≤ p ∧ w'.heap[p]? = some (.cells #[.iface 122 v] 137 (0, 0)) ∧ w.grownBy w' none) := rand_new
  have hcbl : cb < B := by have := block_lt_of_cell hs; simp at this; omega
  clear hV hB hs b1 b3
  go_region_held3 (fun w' => w'.cell? ⟨cb, 37, none⟩ = some (.int .u64 0) ∧ w'.cell? ⟨B, 0, none⟩ = some (.int .u32 0) ∧ w'.cell? ⟨B + 1 + 1, 0, none⟩ = some (.float .f64 FX) ∧ w'.cell? ⟨B + 1 + 1, 1, none⟩ = some (.float .f64 FY)) (first | with_reducible exact hk2 | with_reducible exact hk1 | (refine ⟨?_, ?_, ?_, ?_⟩ <;> (repeat rw [cell_set _ _ _ _ _ _ (by omega)]) <;> first | with_reducible exact hk2.1 | with_reducible exact hk2.2.1 | with_reducible exact hk2.2.2.1 | with_reducible exact hk2.2.2.2) | go_keep) (first | (go_at_call 53; refine (HP.out _ _ _).mono ?_; rintro e w1 ⟨ph, rfl, hp1, hp2, hgp⟩; have hk1 : w1.cell? ⟨cb, 37, none⟩ = some (.int .u64 0) ∧ w1.cell? ⟨B, 0, none⟩ = some (.int .u32 0) ∧ w1.cell? ⟨B + 1 + 1, 0, none⟩ = some (.float .f64 FX) ∧ w1.cell? ⟨B + 1 + 1, 1, none⟩ = some (.float .f64 FY) := ⟨hgp.cell hsV (by simp), hgp.cell c0 (by simp), hgp.cell d0 (by simp), hgp.cell d1 (by simp)⟩; have hb1 := (hgp.block (B + 1) (by show B + 1 < V.heap.size; omega) (by simp)).trans b2) | (go_at_call 52; refine (HN.out _ _).mono ?_; rintro e w2 ⟨pg, rfl, hq1, hq2, hgq⟩; have hk2 : w2.cell? ⟨cb, 37, none⟩ = some (.int .u64 0) ∧ w2.cell? ⟨B, 0, none⟩ = some (.int .u32 0) ∧ w2.cell? ⟨B + 1 + 1, 0, none⟩ = some (.float .f64 FX) ∧ w2.cell? ⟨B + 1 + 1, 1, none⟩ = some (.float .f64 FY) := ⟨hgq.cell hk1.1 (by simp), hgq.cell hk1.2.1 (by simp), hgq.cell hk1.2.2.1 (by simp), hgq.cell hk1.2.2.2 (by simp)⟩; have hb2 : w2.heap[B + 1]? = some (.cells #[.pointer none, .pointer none, .float .f64 0, .float .f64 0, .float .f64 0, .float .f64 0, .float .f64 0, .float .f64 0, .float .f64 0, .float .f64 0, .int .i64 0, .int .i64 0, .int .i64 0] 104 (0, 0)) := (hgq.block (B + 1) (Nat.lt_of_lt_of_le (by show B + 1 < V.heap.size; omega) hgp.size) (by simp)).trans hb1; have x0 := cell_of_row w2 (B + 1) 0 _ _ _ hb2; have y0 : w2.frozen? ⟨B + 1, 0, none⟩ = false := frozen_of_row w2 _ 0 _ _ hb2; have x1 := cell_of_row w2 (B + 1) 1 _ _ _ hb2; have y1 : w2.frozen? ⟨B + 1, 1, none⟩ = false := frozen_of_row w2 _ 1 _ _ hb2; have x2 := cell_of_row w2 (B + 1) 2 _ _ _ hb2; have y2 : w2.frozen? ⟨B + 1, 2, none⟩ = false := frozen_of_row w2 _ 2 _ _ hb2; have x3 := cell_of_row w2 (B + 1) 3 _ _ _ hb2; have y3 : w2.frozen? ⟨B + 1, 3, none⟩ = false := frozen_of_row w2 _ 3 _ _ hb2; have x4 := cell_of_row w2 (B + 1) 4 _ _ _ hb2; have y4 : w2.frozen? ⟨B + 1, 4, none⟩ = false := frozen_of_row w2 _ 4 _ _ hb2; have x5 := cell_of_row w2 (B + 1) 5 _ _ _ hb2; have y5 : w2.frozen? ⟨B + 1, 5, none⟩ = false := frozen_of_row w2 _ 5 _ _ hb2; have x6 := cell_of_row w2 (B + 1) 6 _ _ _ hb2; have y6 : w2.frozen? ⟨B + 1, 6, none⟩ = false := frozen_of_row w2 _ 6 _ _ hb2; have x7 := cell_of_row w2 (B + 1) 7 _ _ _ hb2; have y7 : w2.frozen? ⟨B + 1, 7, none⟩ = false := frozen_of_row w2 _ 7 _ _ hb2; have x8 := cell_of_row w2 (B + 1) 8 _ _ _ hb2; have y8 : w2.frozen? ⟨B + 1, 8, none⟩ = false := frozen_of_row w2 _ 8 _ _ hb2; have x9 := cell_of_row w2 (B + 1) 9 _ _ _ hb2; have y9 : w2.frozen? ⟨B + 1, 9, none⟩ = false := frozen_of_row w2 _ 9 _ _ hb2; have x10 := cell_of_row w2 (B + 1) 10 _ _ _ hb2; have y10 : w2.frozen? ⟨B + 1, 10, none⟩ = false := frozen_of_row w2 _ 10 _ _ hb2; have x11 := cell_of_row w2 (B + 1) 11 _ _ _ hb2; have y11 : w2.frozen? ⟨B + 1, 11, none⟩ = false := frozen_of_row w2 _ 11 _ _ hb2; have x12 := cell_of_row w2 (B + 1) 12 _ _ _ hb2; have y12 : w2.frozen? ⟨B + 1, 12, none⟩ = false := frozen_of_row w2 _ 12 _ _ hb2; simp at x0 x1 x2 x3 x4 x5 x6 x7 x8 x9 x10 x11 x12))
  go_wp2
  have r := set13 w2 (B + 1) (.pointer (some ⟨cb, 0, none⟩)) (.pointer (some ⟨pg, 0, none⟩)) (.float .f64 FX) (.float .f64 FY) (.float .f64 FX) (.float .f64 FY) (.float .f64 0) (.float .f64 0) (.float .f64 0) (.float .f64 0) (.int .i64 0) (.int .i64 0) (.int .i64 0) _ _ _ _ _ _ _ _ _ _ _ _ _ hb2
  refine bodyPost_ret (results_cell_row rfl _ _ (B + 1) 104 _ (0, 0) _ rfl r Yba.underlying104 rfl rfl) rfl ⟨pg, ph, rfl, ?_, ?_, ?_, ?_⟩
  · have := HB.out; have h1 : V.heap.size ≤ w1.heap.size := hgp.size; omega
  · have := HB.out; have h1 : V.heap.size ≤ ph := hp1; omega
  · have h1 : V.heap.size ≤ w1.heap.size := hgp.size
    have h2 : V.heap.size ≤ ph := hp1
    refine ⟨⟨_, _, ?_, (other13 w2 (B + 1) ph _ _ _ _ _ _ _ _ _ _ _ _ _ (by omega)).trans ((hgq.block ph (heap_lt hp2) (by simp)).trans hp2)⟩, (other13 w2 (B + 1) pg _ _ _ _ _ _ _ _ _ _ _ _ _ (by omega)).trans hq2⟩
    decide
  · exact grown13 w w2 (B + 1) _ _ _ _ _ _ _ _ _ _ _ _ _ (CSort.grown_trans (CSort.grown_drewN hg 1) (CSort.grown_trans hgp hgq)) (by have := HB.out; omega)
end Go.Proofs.Ybulkyyu.CMv
