/- All walks of a field; field.at. -/
import Derived.Test.YbulkyyuCAt
import Derived.Test.YbulkyyuCWalk
namespace Go.Proofs.Ybulkyyu.CMv
open Go.RowKit
open Go.Proofs.Ybulkyyu.CF (fI fD Mg fInf)

def Vst (t : Int) (cb g : Nat) (x y : Int) (v : Nat → Value) : Prop :=
  v = fresh cb g x y ∨ (0 < t ∧ ∃ kx ky ux uy dist, v = gone cb g x y kx ky ux uy dist ∧ kx < 2 ^ 53 ∧ ky < 2 ^ 53 ∧ Mg dist false (-60) 30 ∧ (∃ s a b, Mg ux s a b) ∧ ∃ s a b, Mg uy s a b)
/-- The first k of n walks, in block wb; their generators lie in the blocks between wb and we. -/
def Walks (t : Int) (w : World) (wb we n k cb : Nat) (x y : Nat → Int) : Prop :=
  ∃ cur, w.heap[wb]? = some (.cells cur 104 (0, 0)) ∧ cur.size = n * 13 ∧ ∀ j, j < k → ∃ g h v, (wb < g ∧ g < we) ∧ (wb < h ∧ h < we) ∧ Rok w g h ∧ (∀ i, i < 13 → cur[j * 13 + i]? = some (v i)) ∧ Vst t cb g (x j) (y j) v

theorem Rok.apart {w : World} {g h g' h' : Nat} (h1 : Rok w g h) (h2 : Rok w g' h') : g' ≠ h := fun e => by
  obtain ⟨⟨a, b, c, d⟩, _⟩ := h1
  obtain ⟨_, e2⟩ := h2
  rw [e, d] at e2
  have := congrArg (fun o : Option Obj => o.map (fun o => match o with | .cells _ t _ => t | _ => 0)) e2
  exact absurd this (by simp)

theorem Walks.at {t : Int} {w w' : World} {wb we n k cb : Nat} {x y : Nat → Int} (hw : Walks t w wb we n k cb x y) (hb : ∀ q, wb ≤ q → q < we ∨ q = wb → w'.heap[q]? = w.heap[q]?) : Walks t w' wb we n k cb x y := by
  obtain ⟨cur, a1, a2, a3⟩ := hw
  refine ⟨cur, (hb wb (Nat.le_refl _) (.inr rfl)).trans a1, a2, fun j hj => ?_⟩
  obtain ⟨g, h, v, b1, b2, b3, b4⟩ := a3 j hj
  exact ⟨g, h, v, b1, b2, b3.at (hb h (by omega) (.inl b2.2)) (hb g (by omega) (.inl b1.2)), b4⟩
theorem Walks.mono {t : Int} {w : World} {wb we we' n k cb : Nat} {x y : Nat → Int} (hw : Walks t w wb we n k cb x y) (hb : we ≤ we') : Walks t w wb we' n k cb x y := by
  obtain ⟨cur, a1, a2, a3⟩ := hw
  refine ⟨cur, a1, a2, fun j hj => ?_⟩
  obtain ⟨g, h, v, b1, b2, b3⟩ := a3 j hj
  exact ⟨g, h, v, ⟨b1.1, by omega⟩, ⟨b2.1, by omega⟩, b3⟩
theorem Walks.lt {t : Int} {w : World} {wb we n k cb : Nat} {x y : Nat → Int} (hw : Walks t w wb we n k cb x y) : wb < w.heap.size := by
  obtain ⟨cur, a1, _⟩ := hw
  exact heap_lt a1

theorem Wst.v {t : Int} {w : World} {wb o cb g : Nat} {c0 : Array Value} {x y : Int} (h : Wst t w wb o cb g c0 x y) : ∃ v, Wk w wb o c0 v ∧ Vst t cb g x y v := by
  rcases h with h | ⟨h0, kx, ky, ux, uy, dist, h, r⟩
  · exact ⟨_, h, .inl rfl⟩
  · exact ⟨_, h, .inr ⟨h0, kx, ky, ux, uy, dist, rfl, r⟩⟩
theorem Wst.ofV {t : Int} {w : World} {wb o cb g : Nat} {c0 : Array Value} {x y : Int} {v : Nat → Value} (h : Wk w wb o c0 v) (hv : Vst t cb g x y v) : Wst t w wb o cb g c0 x y := by
  rcases hv with rfl | ⟨h0, kx, ky, ux, uy, dist, rfl, r⟩
  · exact .inl h
  · exact .inr ⟨h0, kx, ky, ux, uy, dist, h, r⟩

/-- walk.at of one of the walks. -/
theorem at_one (wb we n cb j : Nat) (x y : Nat → Int) (t : Int) (w : World) (h0 : 0 ≤ t) (ht : t ≤ 4294967295) (hj : j < n) (hc : Cfg w cb) (hcb : cb < wb) (hW : Walks t w wb we n n cb x y) (hxy : ∀ j, j < n → (2 ≤ x j ∧ x j ≤ 500) ∧ 2 ≤ y j ∧ y j ≤ 500) :
    Calls Yba.prog 55 #[.pointer (some ⟨wb, j * 13, none⟩), .int .i64 t] w fun e w' => e = .returned (.agg #[.float .f64 (fI (x j)), .float .f64 (fI (y j))]) ∧ Walks t w' wb we n n cb x y ∧ Ch (fun k => wb ≤ k ∧ k < we) w w' := by
  obtain ⟨cur, a1, a2, a3⟩ := hW
  obtain ⟨g, h, v, b1, b2, b3, b4, b5⟩ := a3 j hj
  have hk : Wk w wb (j * 13) cur v := ⟨cur, a1, rfl, b4, fun _ _ => rfl⟩
  refine (at_walk wb (j * 13) cb g h cur (x j) (y j) t w h0 ht (Wst.ofV hk b5) hc b3 (hxy j hj).1 (hxy j hj).2 (by omega) (by omega) (by omega) (by omega)).mono ?_
  rintro e w' ⟨rfl, hs, hr, hC⟩
  refine ⟨rfl, ?_, hC.mono (fun k hk => by omega)⟩
  obtain ⟨v', ⟨cur', c1, c2, c3, c4⟩, hv'⟩ := hs.v
  refine ⟨cur', c1, by omega, fun i hi => ?_⟩
  by_cases e : i = j
  · subst e
    exact ⟨g, h, v', b1, b2, hr, c3, hv'⟩
  · obtain ⟨g2, h2, v2, d1, d2, d3, d4, d5⟩ := a3 i hi
    refine ⟨g2, h2, v2, d1, d2, ?_, fun q hq => ?_, d5⟩
    · have hg : g2 ≠ h := b3.apart d3
      have hg2 : w'.heap[g2]? = w.heap[g2]? := by
        obtain ⟨_, dd⟩ := d3
        exact hC.block g2 (heap_lt dd) (by omega)
      by_cases e2 : h2 = h
      · subst e2
        obtain ⟨q1, q2⟩ := d3
        exact ⟨hr.1, hg2.trans q2⟩
      · have hh2 : w'.heap[h2]? = w.heap[h2]? := by
          obtain ⟨⟨_, _, _, dd⟩, _⟩ := d3
          exact hC.block h2 (heap_lt dd) (by omega)
        exact d3.at hh2 hg2
    · rw [c4 (i * 13 + q) (by omega)]
      exact d4 q hq

theorem eql90 (a : Option Addr) (n c n' c' : Nat) (w : World) : (binOp .eql 90 (.slice a n c) (.slice none n' c')).run Yba.prog w = .ok (.bool a.isNone) w := Lib.run_eql_slice_nil w _ _ a n c n' c' Yba.underlying90

set_option maxRecDepth 100000 in
set_option maxHeartbeats 8000000 in
theorem at_field (fb wb we n cb j : Nat) (cf : Array Value) (x y : Nat → Int) (t : Int) (w : World) (h0 : 0 ≤ t) (ht : t ≤ 4294967295) (hj : j < n) (hc : Cfg w cb) (hcb : cb < wb) (hwe : we ≤ w.heap.size) (hW : Walks t w wb we n n cb x y) (hxy : ∀ j, j < n → (2 ≤ x j ∧ x j ≤ 500) ∧ 2 ≤ y j ∧ y j ≤ 500)
    (hF : w.heap[fb]? = some (.cells cf 96 (0, 0))) (h2 : cf[2]? = some (.slice (some ⟨wb, 0, none⟩) n n)) (hfb : fb < wb) :
    Calls Yba.prog 40 #[.pointer (some ⟨fb, 0, none⟩), .int .i64 j, .int .i64 t] w fun e w' => e = .returned (.agg #[.float .f64 (fI (x j)), .float .f64 (fI (y j))]) ∧ Walks t w' wb we n n cb x y ∧ Ch (fun k => wb ≤ k ∧ k < we) w w' := by
  have stf := CMap.st_float
  have q90 := eql90
  obtain ⟨V, hV⟩ : ∃ V, V = w.alloc (.cells #[.float .f64 0, .float .f64 0] 100 (0, 0)) := ⟨_, rfl⟩
  have hVB : V.heap[w.heap.size]? = some (.cells #[.float .f64 0, .float .f64 0] 100 (0, 0)) := by rw [hV]; exact heap_alloc_new w _
  have hVo : ∀ q, q < w.heap.size → V.heap[q]? = w.heap[q]? := fun q hq => by rw [hV]; exact heap_alloc_old w _ hq
  have hVC : Ch (fun k => wb ≤ k ∧ k < we) w V := by rw [hV]; exact (Ch.refl _ w).alloc _
  have hVs : V.heap.size = w.heap.size + 1 := by rw [hV]; exact World.size_alloc ..
  have hwl := hW.lt
  have hVW : Walks t V wb we n n cb x y := hW.at (fun q _ hq => hVo q (by omega))
  have hVc : Cfg V cb := hc.at (hVo cb (by omega))
  have c2 : V.cell? ⟨fb, 2, none⟩ = some (.slice (some ⟨wb, 0, none⟩) n n) := by rw [cell_of_row _ _ _ _ _ _ ((hVo fb (by omega)).trans hF)]; exact h2
  have HC : Hid (Calls Yba.prog 55 #[.pointer (some ⟨wb, j * 13, none⟩), .int .i64 t] V fun e w' => e = .returned (.agg #[.float .f64 (fI (x j)), .float .f64 (fI (y j))]) ∧ Walks t w' wb we n n cb x y ∧ Ch (fun k => wb ≤ k ∧ k < we) V w') := at_one wb we n cb j x y t V h0 ht hj hVc hcb hVW hxy
  have k1 : (j : Int) < (n : Int) := by omega
  clear hVc hVW hxy hW hc
  generalize fI (x j) = FX at *
  generalize fI (y j) = FY at *
  have HVB : Hid (V.heap[w.heap.size]? = some (.cells #[.float .f64 0, .float .f64 0] 100 (0, 0)) ∧ Ch (fun k => wb ≤ k ∧ k < we) w V) := ⟨hVB, hVC⟩
  clear hVB hVC hVs hVo
  subst hV
  go_enter Yba.func40, Yba.ntmps40
  go_wp2_with (go_at_call 55; refine HC.out.mono ?_; rintro e w1 ⟨rfl, hW1, hC1⟩; have hb1 : w1.heap[w.heap.size]? = some (.cells #[.float .f64 0, .float .f64 0] 100 (0, 0)) := hC1.at HVB.out.1 (by omega); have b0 : w1.cell? ⟨w.heap.size, 0, none⟩ = some (.float .f64 0) := (cell_of_row _ _ _ _ _ _ hb1).trans rfl; have b1 : w1.cell? ⟨w.heap.size, 1, none⟩ = some (.float .f64 0) := (cell_of_row _ _ _ _ _ _ hb1).trans rfl; have f0 : w1.frozen? ⟨w.heap.size, 0, none⟩ = false := frozen_of_row _ _ _ _ _ hb1; have f1 : w1.frozen? ⟨w.heap.size, 1, none⟩ = false := frozen_of_row _ _ _ _ _ hb1)
  have r1 := heap_setCell_same w1 w.heap.size 0 _ 100 (.float .f64 FX) hb1
  have r2 := heap_setCell_same _ w.heap.size 1 _ 100 (.float .f64 FY) r1
  have e1 : ∀ q, q < w.heap.size → ((w1.setCell ⟨w.heap.size, 0, none⟩ (.float .f64 FX)).setCell ⟨w.heap.size, 1, none⟩ (.float .f64 FY)).heap[q]? = w1.heap[q]? := fun q hq => by
    rw [heap_setCell_other _ ⟨w.heap.size, 1, none⟩ q _ (by show q ≠ w.heap.size; omega), heap_setCell_other _ ⟨w.heap.size, 0, none⟩ q _ (by show q ≠ w.heap.size; omega)]
  refine bodyPost_ret (results_cell_row rfl _ _ w.heap.size 100 #[.float .f64 FX, .float .f64 FY] (0, 0) _ rfl r2 Yba.underlying100 rfl rfl) rfl ⟨rfl, hW1.at (fun q _ hq => e1 q (by omega)), ?_⟩
  exact ((HVB.out.2.trans hC1).setCell w.heap.size _ _ (fun h => by omega)).setCell w.heap.size _ _ (fun h => by omega)
end Go.Proofs.Ybulkyyu.CMv
