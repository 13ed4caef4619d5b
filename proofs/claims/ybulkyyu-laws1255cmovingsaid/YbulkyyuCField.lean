/- newField where the nodes stand still. -/
import Derived.Test.YbulkyyuCConfig
namespace Go.Proofs.Ybulkyyu.CLaw
open Go.RowKit
open Go.Proofs.Ybulkyyu.CF (fI fInf)
open Go.Proofs.Ybulkyyu.CMap (st_float)

theorem info100 : (Yba.prog.info? 100).map (fun i => (i.zero, i.size, i.bytes)) = some (some (.agg #[.float .f64 0, .float .f64 0]), 2, 16) := by kernel_rfl

/-- Block g: n points of two cells; the first k of them at (x j, y j). -/
def Pts (w : World) (g n k : Nat) (x y : Nat → Int) : Prop :=
  ∃ cur, w.heap[g]? = some (.cells cur 100 (0, 0)) ∧ cur.size = n * 2 ∧ ∀ j, j < k → cur[j * 2]? = some (.float .f64 (fI (x j))) ∧ cur[j * 2 + 1]? = some (.float .f64 (fI (y j)))
theorem Pts.next {w : World} {g n k : Nat} {x y : Nat → Int} (h : Pts w g n k x y) (hk : k < n) :
    Pts ((w.setCell ⟨g, k * 2, none⟩ (.float .f64 (fI (x k)))).setCell ⟨g, k * 2 + 1, none⟩ (.float .f64 (fI (y k)))) g n (k + 1) x y := by
  obtain ⟨cur, hg, hs, hc⟩ := h
  have e1 := heap_setCell_same w g (k * 2) cur 100 (.float .f64 (fI (x k))) hg
  have e2 := heap_setCell_same _ g (k * 2 + 1) _ 100 (.float .f64 (fI (y k))) e1
  refine ⟨_, e2, by simpa using hs, fun j hj => ?_⟩
  by_cases e : j = k
  · subst e
    refine ⟨?_, ?_⟩
    · rw [Array.getElem?_setIfInBounds_ne (by omega), Array.getElem?_setIfInBounds_self_of_lt (by omega)]
    · rw [Array.getElem?_setIfInBounds_self_of_lt (by simp; omega)]
  · have := hc j (by omega)
    refine ⟨?_, ?_⟩
    · rw [Array.getElem?_setIfInBounds_ne (by omega), Array.getElem?_setIfInBounds_ne (by omega)]; exact this.1
    · rw [Array.getElem?_setIfInBounds_ne (by omega), Array.getElem?_setIfInBounds_ne (by omega)]; exact this.2

theorem make79 (n : Nat) (hn : n ≤ 4096) (W : World) :
    (Instr.makeSlice 79 (.int .i64 n) (.int .i64 n)).run Yba.prog W = .ok (.slice (some ⟨W.heap.size, 0, none⟩) n n) (W.alloc (.cells (zer (.agg #[.float .f64 0, .float .f64 0]) 2 n) 100)) := by
  obtain ⟨i, hi, hz0, hz1, hz2⟩ := info_parts info100
  have h := run_make (P := Yba.prog) W 79 100 i _ Yba.underlying79 hi hz0 .i64 .i64 (n : Int) (n : Int) (by omega) (by omega) (by rw [hz2]; omega) (by omega)
  rw [hz1, Int.toNat_natCast] at h
  exact h

set_option maxRecDepth 100000 in
set_option maxHeartbeats 4000000 in
theorem field_static (cb psb n r : Nat) (cc : Array Value) (x y : Nat → Int) (w : World) (hn : n ≤ 1024) (hr : r ≤ 500) (hcb : w.heap[cb]? = some (.cells cc 89 (0, 0))) (h0 : cc[0]? = some (.slice (some ⟨psb, 0, none⟩) n n)) (h1 : cc[1]? = some (.float .f64 (fI r))) (h2 : cc[2]? = some (.int .i64 0)) (hP : Pos w psb n n x y) :
    Calls Yba.prog 19 #[.pointer (some ⟨cb, 0, none⟩)] w fun e w' => ∃ cur, e = .returned (.pointer (some ⟨w.heap.size + 1, 0, none⟩)) ∧ w'.heap[w.heap.size + 1]? = some (.cells cur 96 (0, 0)) ∧ cur.size = 12 ∧
      (cur[0]? = some (.slice (some ⟨w.heap.size, 0, none⟩) n n) ∧ cur[1]? = some (.float .f64 (fI r)) ∧ cur[2]? = some (.slice none 0 0) ∧ cur[3]? = some (.float .f64 (cellBits r)) ∧ cur[4]? = some (.map none) ∧ cur[5]? = some (.slice none 0 0)) ∧
      Pts w' w.heap.size n n x y ∧ w.grownBy w' none := by
  have mk := make79 n (by omega)
  have stf := st_float
  have c0 : w.cell? ⟨cb, 0, none⟩ = some (.slice (some ⟨psb, 0, none⟩) n n) := by rw [cell_of_row _ _ _ _ _ _ hcb]; exact h0
  have c1 : w.cell? ⟨cb, 1, none⟩ = some (.float .f64 (fI r)) := by rw [cell_of_row _ _ _ _ _ _ hcb]; exact h1
  have c2 : w.cell? ⟨cb, 2, none⟩ = some (.int .i64 0) := by rw [cell_of_row _ _ _ _ _ _ hcb]; exact h2
  have hcl : cb < w.heap.size := by
    rcases Nat.lt_or_ge cb w.heap.size with hlt | hge
    · exact hlt
    · rw [Array.getElem?_eq_none hge] at hcb; cases hcb
  have HI : Hid (∀ w : World, Calls Yba.prog 35 #[.float .f64 (fI r)] w fun e w' => e = .returned (.float .f64 (cellBits r)) ∧ w' = w) := gridCell_any r hr
  generalize fI (r : Int) = R at *
  generalize cellBits r = CB at *
  go_enter Yba.func19, Yba.ntmps19
  go_wp2
  go_region
  go_wp2
  obtain ⟨G, hG⟩ : ∃ G, G = w.heap.size := ⟨_, rfl⟩
  obtain ⟨b1, b2, hg0⟩ := CF.two w (.cells (zer (.agg #[.float .f64 0, .float .f64 0]) 2 n) 100 (0, 0)) (.cells #[.slice (some ⟨w.heap.size, 0, none⟩) n n, .float .f64 R, .slice none 0 0, .float .f64 0, .map none, .slice none 0 0, .int .i64 0, .float .f64 0, .int .i64 0, .slice none 0 0, .slice none 0 0, .int .i64 0] 96 (0, 0))
  have hs0 : ((w.alloc (.cells (zer (.agg #[.float .f64 0, .float .f64 0]) 2 n) 100 (0, 0))).alloc (.cells #[.slice (some ⟨w.heap.size, 0, none⟩) n n, .float .f64 R, .slice none 0 0, .float .f64 0, .map none, .slice none 0 0, .int .i64 0, .float .f64 0, .int .i64 0, .slice none 0 0, .slice none 0 0, .int .i64 0] 96 (0, 0))).heap.size = w.heap.size + 1 + 1 := by rw [World.size_alloc, World.size_alloc]
  rw [← hG] at b1 b2 hs0 hg0 ⊢
  obtain ⟨W, hW⟩ : ∃ W, W = ((w.alloc (.cells (zer (.agg #[.float .f64 0, .float .f64 0]) 2 n) 100 (0, 0))).alloc (.cells #[.slice (some ⟨G, 0, none⟩) n n, .float .f64 R, .slice none 0 0, .float .f64 0, .map none, .slice none 0 0, .int .i64 0, .float .f64 0, .int .i64 0, .slice none 0 0, .slice none 0 0, .int .i64 0] 96 (0, 0))) := ⟨_, rfl⟩
  rw [← hW] at b1 b2 hs0 hg0 ⊢
  have HG : Hid (G = w.heap.size) := hG
  have hPt0 : Pts W.drew G n 0 x y := ⟨_, b1, zer_size _ _ _, fun j hj => by omega⟩
  have hcb' : cb < G := by omega
  have hpl : psb < G := by
    obtain ⟨cu, hcu, _⟩ := hP
    rcases Nat.lt_or_ge psb w.heap.size with hlt | hge
    · omega
    · rw [Array.getElem?_eq_none hge] at hcu; cases hcu
  clear hG hW mk b1
  go_loopw [4, 5, 25] (fun _ _ s25 wr => ∃ k : Nat, s25 = .int .i64 k ∧ k ≤ n ∧ Pts wr G n k x y ∧ wr.heap[G + 1]? = some (.cells #[.slice (some ⟨G, 0, none⟩) n n, .float .f64 R, .slice none 0 0, .float .f64 0, .map none, .slice none 0 0, .int .i64 0, .float .f64 0, .int .i64 0, .slice none 0 0, .slice none 0 0, .int .i64 0] 96 (0, 0)) ∧ w.grownBy wr none ∧ G + 1 + 1 ≤ wr.heap.size) (fun _ _ s25 _ => n - (intOf s25).toNat)
  case atStart => exact ⟨0, rfl, Nat.zero_le _, hPt0, b2, CSort.grown_drewN hg0 1, by show G + 1 + 1 ≤ W.heap.size; omega⟩
  case round =>
    obtain ⟨k, rfl, hk, hPt, hF, hg, hsz⟩ := hrel
    clear hPt0 b2 hg0 hs0
    by_cases hlt : k < n
    · obtain ⟨cu, hcu, hcs, hcc⟩ := hP
      obtain ⟨p0, p1, p2⟩ := hcc k hlt
      have e0 := hg.cell ((cell_of_row w psb (k * 3) _ _ _ hcu).trans p0) (by simp)
      have e1 := hg.cell ((cell_of_row w psb (k * 3 + 1) _ _ _ hcu).trans p1) (by simp)
      have e2 := hg.cell ((cell_of_row w psb (k * 3 + 2) _ _ _ hcu).trans p2) (by simp)
      obtain ⟨FX, hFX⟩ : ∃ FX, FX = fI (x k) := ⟨_, rfl⟩
      obtain ⟨FY, hFY⟩ : ∃ FY, FY = fI (y k) := ⟨_, rfl⟩
      rw [← hFX] at e1
      rw [← hFY] at e2
      have k1 : (k : Int) < (n : Int) := by omega
      have HFX : Hid (FX = fI (x k)) := hFX
      have HFY : Hid (FY = fI (y k)) := hFY
      clear p0 p1 p2 hcu hcs hcc hFX hFY
      go_wp2
      obtain ⟨V, hV⟩ : ∃ V, V = wr.alloc (.cells #[.int .u32 0, .float .f64 FX, .float .f64 FY] 98 (0, 0)) := ⟨_, rfl⟩
      have hVn : V.heap[wr.heap.size]? = some (.cells #[.int .u32 0, .float .f64 FX, .float .f64 FY] 98 (0, 0)) := by rw [hV]; exact heap_alloc_new wr _
      have hVo : ∀ q, q < wr.heap.size → V.heap[q]? = wr.heap[q]? := fun q hq => by rw [hV]; exact heap_alloc_old wr _ hq
      have hVs : V.heap.size = wr.heap.size + 1 := by rw [hV]; exact World.size_alloc ..
      have hVg : w.grownBy V none := by rw [hV]; exact CSort.grown_trans hg (CSort.grown_alloc wr _ none)
      rw [← hV]
      clear hV
      have hVF := (hVo (G + 1) (by omega)).trans hF
      have hVP : Pts V G n k x y := by obtain ⟨cu, a1, a2⟩ := hPt; exact ⟨cu, (hVo G (by omega)).trans a1, a2⟩
      have hnx := hVP.next hlt
      rw [← HFX.out, ← HFY.out] at hnx
      obtain ⟨cu, hcu, hcs, _⟩ := hVP
      have s0 : V.cell? ⟨G, k * 2, none⟩ = some cu[k * 2] := by rw [cell_of_row _ _ _ _ _ _ hcu]; exact Array.getElem?_eq_getElem (by omega)
      have s1 : V.cell? ⟨G, k * 2 + 1, none⟩ = some cu[k * 2 + 1] := by rw [cell_of_row _ _ _ _ _ _ hcu]; exact Array.getElem?_eq_getElem (by omega)
      have f0 : V.frozen? ⟨G, k * 2, none⟩ = false := frozen_of_row _ _ _ _ _ hcu
      have f1 : V.frozen? ⟨G, k * 2 + 1, none⟩ = false := frozen_of_row _ _ _ _ _ hcu
      generalize cu[k * 2] = u0 at s0
      generalize cu[k * 2 + 1] = u1 at s1
      have t1 : V.cell? ⟨G + 1, 0, none⟩ = some (.slice (some ⟨G, 0, none⟩) n n) := by rw [cell_of_row _ _ _ _ _ _ hVF]; rfl
      have t2 : V.cell? ⟨wr.heap.size, 1, none⟩ = some (.float .f64 FX) := by rw [cell_of_row _ _ _ _ _ _ hVn]; rfl
      have t3 : V.cell? ⟨wr.heap.size, 2, none⟩ = some (.float .f64 FY) := by rw [cell_of_row _ _ _ _ _ _ hVn]; rfl
      have hFn : ((V.setCell ⟨G, k * 2, none⟩ (.float .f64 FX)).setCell ⟨G, k * 2 + 1, none⟩ (.float .f64 FY)).heap[G + 1]? = V.heap[G + 1]? := by
        rw [heap_setCell_other _ ⟨G, k * 2 + 1, none⟩ (G + 1) _ (by show G + 1 ≠ G; omega), heap_setCell_other _ ⟨G, k * 2, none⟩ (G + 1) _ (by show G + 1 ≠ G; omega)]
      have HNX : Hid (Pts ((V.setCell ⟨G, k * 2, none⟩ (.float .f64 FX)).setCell ⟨G, k * 2 + 1, none⟩ (.float .f64 FY)) G n (k + 1) x y) := hnx
      have HFN : Hid (((V.setCell ⟨G, k * 2, none⟩ (.float .f64 FX)).setCell ⟨G, k * 2 + 1, none⟩ (.float .f64 FY)).heap[G + 1]? = V.heap[G + 1]?) := hFn
      clear hnx hcu hcs hFn
      go_region
      go_wp2
      go_roundw
      case rel =>
        have hG := HG.out
        exact ⟨k + 1, by go_num, by omega, HNX.out, HFN.out.trans hVF, CF.grown_draw (CF.grown_new_cell (CF.grown_new_cell hVg _ _ _ (by omega)) _ _ _ (by omega)) 1, by show G + 1 + 1 ≤ (World.setCell _ _ _).heap.size; rw [World.size_setCell, World.size_setCell]; omega⟩
      case measure => simp [intOf]; omega
    · obtain rfl : k = n := by omega
      have d1 := hg.cell c1 (by simp)
      have d2 := hg.cell c2 (by simp)
      have d3 : wr.cell? ⟨G + 1, 3, none⟩ = some (.float .f64 0) := by rw [cell_of_row _ _ _ _ _ _ hF]; rfl
      have f3 : wr.frozen? ⟨G + 1, 3, none⟩ = false := frozen_of_row _ _ _ _ _ hF
      have hFn := heap_setCell_same wr (G + 1) 3 _ 96 (.float .f64 CB) hF
      have hgn := CF.grown_new_cell hg (G + 1) 3 (.float .f64 CB) (by have := HG.out; omega)
      have HFN : Hid ((wr.setCell ⟨G + 1, 3, none⟩ (.float .f64 CB)).heap[G + 1]? = _) := hFn
      clear hFn
      go_wp2_with (go_at_call 35; refine (HI.out _).mono ?_; rintro e w1 ⟨rfl, rfl⟩)
      go_ret
      have hG := HG.out
      subst hG
      refine ⟨_, rfl, HFN.out, by simp, ⟨rfl, rfl, rfl, rfl, rfl, rfl⟩, ?_, hgn⟩
      obtain ⟨cu, a1, a2⟩ := hPt
      exact ⟨cu, (heap_setCell_other _ ⟨w.heap.size + 1, 3, none⟩ w.heap.size _ (by show w.heap.size ≠ w.heap.size + 1; omega)).trans a1, a2⟩
end Go.Proofs.Ybulkyyu.CLaw
