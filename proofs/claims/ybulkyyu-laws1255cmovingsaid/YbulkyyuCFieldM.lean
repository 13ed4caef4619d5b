/- newField where the nodes move. -/
import Derived.Test.YbulkyyuCFd
namespace Go.Proofs.Ybulkyyu.CLaw
open Go.RowKit
open Go.Proofs.Ybulkyyu.CF (fI fInf)
open Go.Proofs.Ybulkyyu.CMap (st_float)

set_option maxRecDepth 100000 in
set_option maxHeartbeats 16000000 in
theorem field_moving (cb psb n r : Nat) (cc : Array Value) (x y : Nat → Int) (t : Int) (w : World) (hn : n ≤ 1024) (hr : r ≤ 255) (hcb : w.heap[cb]? = some (.cells cc 89 (0, 0))) (h0 : cc[0]? = some (.slice (some ⟨psb, 0, none⟩) n n)) (h1 : cc[1]? = some (.float .f64 (fI r))) (h2 : cc[2]? = some (.int .i64 1)) (h5 : cc[5]? = some (.float .f64 0)) (h37 : cc[37]? = some (.int .u64 0)) (hP : Pos w psb n n x y) :
    Calls Yba.prog 19 #[.pointer (some ⟨cb, 0, none⟩)] w fun e w' => ∃ cur wb we nb, e = .returned (.pointer (some ⟨w.heap.size + 1, 0, none⟩)) ∧ w'.heap[w.heap.size + 1]? = some (.cells cur 96 (0, 0)) ∧ cur.size = 12 ∧
      (cur[0]? = some (.slice (some ⟨w.heap.size, 0, none⟩) n n) ∧ cur[1]? = some (.float .f64 (fI r)) ∧ cur[2]? = some (.slice (some ⟨wb, 0, none⟩) n n) ∧ cur[3]? = some (.float .f64 (fI (r + 1))) ∧ cur[4]? = some (.map none) ∧ cur[6]? = some (.int .i64 3153600000000000000) ∧ cur[7]? = some (.float .f64 (fI (r + 1))) ∧ cur[8]? = some (.int .i64 (-1)) ∧ cur[9]? = some (.slice (some ⟨nb, 0, none⟩) n n) ∧ cur[10]? = some (.slice none 0 0) ∧ cur[11]? = some (.int .i64 0)) ∧
      w'.heap[nb]? = some (.cells (zer (.slice none 0 0) 1 n) 61 (0, 0)) ∧ CMv.Walks t w' wb we n n cb x y ∧ (w.heap.size + 1 < wb ∧ wb < we ∧ we ≤ nb) ∧ w.grownBy w' none := by
  have mk := make79 n (by omega)
  have stf := st_float
  have c0 : w.cell? ⟨cb, 0, none⟩ = some (.slice (some ⟨psb, 0, none⟩) n n) := by rw [cell_of_row _ _ _ _ _ _ hcb]; exact h0
  have c1 : w.cell? ⟨cb, 1, none⟩ = some (.float .f64 (fI r)) := by rw [cell_of_row _ _ _ _ _ _ hcb]; exact h1
  have c2 : w.cell? ⟨cb, 2, none⟩ = some (.int .i64 1) := by rw [cell_of_row _ _ _ _ _ _ hcb]; exact h2
  have c5 : w.cell? ⟨cb, 5, none⟩ = some (.float .f64 0) := by rw [cell_of_row _ _ _ _ _ _ hcb]; exact h5
  have c37 : w.cell? ⟨cb, 37, none⟩ = some (.int .u64 0) := by rw [cell_of_row _ _ _ _ _ _ hcb]; exact h37
  have hcl : cb < w.heap.size := by
    rcases Nat.lt_or_ge cb w.heap.size with hlt | hge
    · exact hlt
    · rw [Array.getElem?_eq_none hge] at hcb; cases hcb
  have HI : Hid (∀ w : World, Calls Yba.prog 35 #[.float .f64 (fI r)] w fun e w' => e = .returned (.float .f64 (cellBits r)) ∧ w' = w) := gridCell_any r (by omega)
  have HSL : Hid (∀ w : World, Calls Yba.prog 37 #[.float .f64 (fI r), .float .f64 0] w fun e w' => e = .returned (.int .i64 3153600000000000000) ∧ ∃ t, w' = w.drewN t) := CRand.slack_any r (by omega)
  have HSE : Hid (∀ w : World, Calls Yba.prog 38 #[.int .i64 3153600000000000000] w fun e w' => e = .returned (.float .f64 (fI 3153600000)) ∧ w' = w) := CRand.seconds_any
  have HG2 : Hid (∀ w : World, Calls Yba.prog 35 #[.float .f64 (fI ((r : Int) + 1))] w fun e w' => e = .returned (.float .f64 (fI ((r : Int) + 1))) ∧ w' = w) := by
    have := gridCell_any (r + 1) (by omega)
    have e : cellBits (r + 1) = fI ((r : Int) + 1) := by simp [cellBits]
    rw [e] at this
    exact this
  have HFL : Hid ((∀ t w, (binOp .mul t (.float .f64 4611686018427387904) (.float .f64 0)).run Yba.prog w = .ok (.float .f64 0) w) ∧ (∀ t w, (binOp .mul t (.float .f64 0) (.float .f64 (fI 3153600000))).run Yba.prog w = .ok (.float .f64 0) w) ∧ (∀ t w, (binOp .add t (.float .f64 (fI r)) (.float .f64 0)).run Yba.prog w = .ok (.float .f64 (fI r)) w) ∧ (∀ t w, (binOp .add t (.float .f64 (fI r)) (.float .f64 4607182418800017408)).run Yba.prog w = .ok (.float .f64 (fI ((r : Int) + 1))) w)) := by
    refine ⟨fun t w => run_float_arith w .mul t .f64 _ _ _ (by decide), fun t w => run_float_arith w .mul t .f64 _ _ _ (CF.zero_mul_mag (CF.fI_mag 3153600000 (by decide) (by decide))), fun t w => run_float_arith w .add t .f64 _ _ _ ?_, fun t w => run_float_arith w .add t .f64 _ _ _ ?_⟩
    · have := CF.add_fI r 0 (by omega) (by decide) (by omega)
      rw [Int.add_zero, fI_zero] at this
      exact this
    · have := CF.add_fI r 1 (by omega) (by decide) (by omega)
      rw [show fI 1 = 4607182418800017408 by decide] at this
      exact this
  generalize fI ((r : Int) + 1) = R1 at *
  generalize fI 3153600000 = SEC at *
  generalize fI (r : Int) = R at *
  generalize cellBits r = CB at *
  go_enter Yba.func19, Yba.ntmps19
  go_wp2
  go_region
  go_wp2
  obtain ⟨G, hG⟩ : ∃ G, G = w.heap.size := ⟨_, rfl⟩
  obtain ⟨b1, b2, hg0⟩ := CF.two w (.cells (zer (.agg #[.float .f64 0, .float .f64 0]) 2 n) 100 (0, 0)) (.cells #[.slice (some ⟨w.heap.size, 0, none⟩) n n, .float .f64 R, .slice none 0 0, .float .f64 0, .map none, .slice none 0 0, .int .i64 0, .float .f64 0, .int .i64 0, .slice none 0 0, .slice none 0 0, .int .i64 0] 96 (0, 0))
  have hs0 : ((w.alloc (.cells (zer (.agg #[.float .f64 0, .float .f64 0]) 2 n) 100 (0, 0))).alloc (.cells #[.slice (some ⟨w.heap.size, 0, none⟩) n n, .float .f64 R, .slice none 0 0, .float .f64 0, .map none, .slice none 0 0, .int .i64 0, .float .f64 0, .int .i64 0, .slice none 0 0, .slice none 0 0, .int .i64 0] 96 (0, 0))).heap.size = w.heap.size + 1 + 1 := by rw [World.size_alloc, World.size_alloc]
  rw [← hG] at b1 b2 hs0 hg0 ⊢
  obtain ⟨W, hW⟩ : ∃ W, W = ((w.alloc (.cells (zer (.agg #[.float .f64 0, .float .f64 0]) 2 n) 100 (0, 0))).alloc (.cells #[.slice (some ⟨G, 0, none⟩) n n, .float .f64 R, .slice none 0 0, .float .f64 0, .map none, .slice none 0 0, .int .i64 0, .float .f64 0, .int .i64 0, .slice none 0 0, .slice none 0 0, .int .i64 0] 96 (0, 0))) := ⟨_, rfl⟩
  rw [← hW] at b1 b2 hs0 hg0 ⊢
  have HG : Hid (G = w.heap.size) := hG
  have hPt0 : Pts W.drew G n 0 x y := ⟨_, b1, zer_size _ _ _, fun j hj => by omega⟩
  have hcb' : cb < G := by omega
  have hpl : psb < G := by
    obtain ⟨cu, hcu, _⟩ := hP
    rcases Nat.lt_or_ge psb w.heap.size with hlt | hge
    · omega
    · rw [Array.getElem?_eq_none hge] at hcu; cases hcu
  clear hG hW mk b1
  go_loopw [4, 5, 25] (fun _ _ s25 wr => ∃ k : Nat, s25 = .int .i64 k ∧ k ≤ n ∧ Pts wr G n k x y ∧ wr.heap[G + 1]? = some (.cells #[.slice (some ⟨G, 0, none⟩) n n, .float .f64 R, .slice none 0 0, .float .f64 0, .map none, .slice none 0 0, .int .i64 0, .float .f64 0, .int .i64 0, .slice none 0 0, .slice none 0 0, .int .i64 0] 96 (0, 0)) ∧ w.grownBy wr none ∧ G + 1 + 1 ≤ wr.heap.size) (fun _ _ s25 _ => n - (intOf s25).toNat)
  case atStart => exact ⟨0, rfl, Nat.zero_le _, hPt0, b2, CSort.grown_drewN hg0 1, by show G + 1 + 1 ≤ W.heap.size; omega⟩
  case round =>
    obtain ⟨k, rfl, hk, hPt, hF, hg, hsz⟩ := hrel
    clear hPt0 b2 hg0 hs0
    by_cases hlt : k < n
    · obtain ⟨cu, hcu, hcs, hcc⟩ := hP
      obtain ⟨p0, p1, p2⟩ := hcc k hlt
      have e0 := hg.cell ((cell_of_row w psb (k * 3) _ _ _ hcu).trans p0) (by simp)
      have e1 := hg.cell ((cell_of_row w psb (k * 3 + 1) _ _ _ hcu).trans p1) (by simp)
      have e2 := hg.cell ((cell_of_row w psb (k * 3 + 2) _ _ _ hcu).trans p2) (by simp)
      obtain ⟨FX, hFX⟩ : ∃ FX, FX = fI (x k) := ⟨_, rfl⟩
      obtain ⟨FY, hFY⟩ : ∃ FY, FY = fI (y k) := ⟨_, rfl⟩
      rw [← hFX] at e1
      rw [← hFY] at e2
      have k1 : (k : Int) < (n : Int) := by omega
      have HFX : Hid (FX = fI (x k)) := hFX
      have HFY : Hid (FY = fI (y k)) := hFY
      clear p0 p1 p2 hcu hcs hcc hFX hFY
      go_wp2
      obtain ⟨V, hV⟩ : ∃ V, V = wr.alloc (.cells #[.int .u32 0, .float .f64 FX, .float .f64 FY] 98 (0, 0)) := ⟨_, rfl⟩
      have hVn : V.heap[wr.heap.size]? = some (.cells #[.int .u32 0, .float .f64 FX, .float .f64 FY] 98 (0, 0)) := by rw [hV]; exact heap_alloc_new wr _
      have hVo : ∀ q, q < wr.heap.size → V.heap[q]? = wr.heap[q]? := fun q hq => by rw [hV]; exact heap_alloc_old wr _ hq
      have hVs : V.heap.size = wr.heap.size + 1 := by rw [hV]; exact World.size_alloc ..
      have hVg : w.grownBy V none := by rw [hV]; exact CSort.grown_trans hg (CSort.grown_alloc wr _ none)
      rw [← hV]
      clear hV
      have hVF := (hVo (G + 1) (by omega)).trans hF
      have hVP : Pts V G n k x y := by obtain ⟨cu, a1, a2⟩ := hPt; exact ⟨cu, (hVo G (by omega)).trans a1, a2⟩
      have hnx := hVP.next hlt
      rw [← HFX.out, ← HFY.out] at hnx
      obtain ⟨cu, hcu, hcs, _⟩ := hVP
      have s0 : V.cell? ⟨G, k * 2, none⟩ = some cu[k * 2] := by rw [cell_of_row _ _ _ _ _ _ hcu]; exact Array.getElem?_eq_getElem (by omega)
      have s1 : V.cell? ⟨G, k * 2 + 1, none⟩ = some cu[k * 2 + 1] := by rw [cell_of_row _ _ _ _ _ _ hcu]; exact Array.getElem?_eq_getElem (by omega)
      have f0 : V.frozen? ⟨G, k * 2, none⟩ = false := frozen_of_row _ _ _ _ _ hcu
      have f1 : V.frozen? ⟨G, k * 2 + 1, none⟩ = false := frozen_of_row _ _ _ _ _ hcu
      generalize cu[k * 2] = u0 at s0
      generalize cu[k * 2 + 1] = u1 at s1
      have t1 : V.cell? ⟨G + 1, 0, none⟩ = some (.slice (some ⟨G, 0, none⟩) n n) := by rw [cell_of_row _ _ _ _ _ _ hVF]; rfl
      have t2 : V.cell? ⟨wr.heap.size, 1, none⟩ = some (.float .f64 FX) := by rw [cell_of_row _ _ _ _ _ _ hVn]; rfl
      have t3 : V.cell? ⟨wr.heap.size, 2, none⟩ = some (.float .f64 FY) := by rw [cell_of_row _ _ _ _ _ _ hVn]; rfl
      have hFn : ((V.setCell ⟨G, k * 2, none⟩ (.float .f64 FX)).setCell ⟨G, k * 2 + 1, none⟩ (.float .f64 FY)).heap[G + 1]? = V.heap[G + 1]? := by
        rw [heap_setCell_other _ ⟨G, k * 2 + 1, none⟩ (G + 1) _ (by show G + 1 ≠ G; omega), heap_setCell_other _ ⟨G, k * 2, none⟩ (G + 1) _ (by show G + 1 ≠ G; omega)]
      have HNX : Hid (Pts ((V.setCell ⟨G, k * 2, none⟩ (.float .f64 FX)).setCell ⟨G, k * 2 + 1, none⟩ (.float .f64 FY)) G n (k + 1) x y) := hnx
      have HFN : Hid (((V.setCell ⟨G, k * 2, none⟩ (.float .f64 FX)).setCell ⟨G, k * 2 + 1, none⟩ (.float .f64 FY)).heap[G + 1]? = V.heap[G + 1]?) := hFn
      clear hnx hcu hcs hFn
      go_region
      go_wp2
      go_roundw
      case rel =>
        have hG := HG.out
        exact ⟨k + 1, by go_num, by omega, HNX.out, HFN.out.trans hVF, CF.grown_draw (CF.grown_new_cell (CF.grown_new_cell hVg _ _ _ (by omega)) _ _ _ (by omega)) 1, by show G + 1 + 1 ≤ (World.setCell _ _ _).heap.size; rw [World.size_setCell, World.size_setCell]; omega⟩
      case measure => simp [intOf]; omega
    · obtain rfl : k = n := by omega
      have d1 := hg.cell c1 (by simp)
      have d2 := hg.cell c2 (by simp)
      have d3 : wr.cell? ⟨G + 1, 3, none⟩ = some (.float .f64 0) := by rw [cell_of_row _ _ _ _ _ _ hF]; rfl
      have f3 : wr.frozen? ⟨G + 1, 3, none⟩ = false := frozen_of_row _ _ _ _ _ hF
      have hFn := heap_setCell_same wr (G + 1) 3 _ 96 (.float .f64 CB) hF
      have hgn := CF.grown_new_cell hg (G + 1) 3 (.float .f64 CB) (by have := HG.out; omega)
      have HFN : Hid ((wr.setCell ⟨G + 1, 3, none⟩ (.float .f64 CB)).heap[G + 1]? = _) := hFn
      clear hFn
      have d5 := hg.cell c5 (by simp)
      have d37 := hg.cell c37 (by simp)
      have d0 := hg.cell c0 (by simp)
      have mk90 := make90 k (by omega)
      go_upto_region 9 with (go_at_call 35; refine (HI.out _).mono ?_; rintro e w1 ⟨rfl, rfl⟩)
      obtain ⟨W, hW⟩ : ∃ W, W = w1.setCell ⟨G + 1, 3, none⟩ (.float .f64 CB) := ⟨_, rfl⟩
      have hF0 : Fd w1 (G + 1) (mf G k R) := ⟨_, hF, rfl, lt12 rfl rfl rfl rfl rfl rfl rfl rfl rfl rfl rfl rfl⟩
      have hFd : Fd W (G + 1) (CMv.upd (mf G k R) 3 (.float .f64 CB)) := by rw [hW]; exact hF0.set 3 _ (by decide)
      have hWg : w.grownBy W none := by rw [hW]; exact hgn
      rw [← hW]
      clear hW HFN hF hF0 hgn hg d1 d2 d3 f3 d5 d37 d0 hPt mk90 HI
      have hGW : G + 1 < W.heap.size := hFd.lt
      have d0 := hWg.cell c0 (by simp)
      have d0' : ∀ o, (W.alloc o).cell? ⟨cb, 0, none⟩ = some (.slice (some ⟨psb, 0, none⟩) k k) := fun o => (CSort.grown_alloc W o none).cell d0 (by simp)
      have e2 : ∀ o, (W.alloc o).cell? ⟨G + 1, 2, none⟩ = some (.slice none 0 0) := fun o => (hFd.at (heap_alloc_old W o hGW)).cell 2 (by decide)
      have f2 : ∀ o, (W.alloc o).frozen? ⟨G + 1, 2, none⟩ = false := fun o => (hFd.at (heap_alloc_old W o hGW)).frozen 2
      have mk90 := make90 k (by omega)
      have sW : (W.setCell ⟨G + 1, 2, none⟩ (.slice (some ⟨W.heap.size, 0, none⟩) k k)).heap.size = W.heap.size := World.size_setCell ..
      obtain ⟨U, hU⟩ : ∃ U, U = (W.setCell ⟨G + 1, 2, none⟩ (.slice (some ⟨W.heap.size, 0, none⟩) k k)).alloc (.cells (zer wzero 13 k) 104 (0, 0)) := ⟨_, rfl⟩
      have hUF : Fd U (G + 1) (CMv.upd (CMv.upd (mf G k R) 3 (.float .f64 CB)) 2 (.slice (some ⟨W.heap.size, 0, none⟩) k k)) := by rw [hU]; exact (hFd.set 2 _ (by decide)).at (heap_alloc_old _ _ (by rw [sW]; exact hGW))
      have hUW : U.heap[W.heap.size]? = some (.cells (zer wzero 13 k) 104 (0, 0)) := by
        have := heap_alloc_new (W.setCell ⟨G + 1, 2, none⟩ (.slice (some ⟨W.heap.size, 0, none⟩) k k)) (.cells (zer wzero 13 k) 104 (0, 0))
        rw [sW, ← hU] at this
        exact this
      have hUs : U.heap.size = W.heap.size + 1 := by rw [hU, World.size_alloc, sW]
      have hUg : w.grownBy U none := by rw [hU]; exact CSort.grown_trans (CF.grown_new_cell hWg _ _ _ (by have := HG.out; omega)) (CSort.grown_alloc _ _ none)
      have hUd0 : ((W.setCell ⟨G + 1, 2, none⟩ (.slice (some ⟨W.heap.size, 0, none⟩) k k)).alloc (.cells (zer wzero 13 k) 104 (0, 0))).cell? ⟨cb, 0, none⟩ = some (.slice (some ⟨psb, 0, none⟩) k k) := by rw [← hU]; exact hUg.cell c0 (by simp)
      go_wp2
      rw [← hU]
      obtain ⟨wb, hwb⟩ : ∃ wb, wb = W.heap.size := ⟨_, rfl⟩
      rw [← hwb] at hUF hUW hUs ⊢
      have hGwb : G + 1 < wb := by omega
      clear hU hUd0 sW mk90 e2 f2 d0 d0' hFd hWg hGW hwb
      obtain ⟨f1, hf1⟩ : ∃ f1, f1 = (CMv.upd (CMv.upd (mf G k R) 3 (.float .f64 CB)) 2 (.slice (some ⟨wb, 0, none⟩) k k)) := ⟨_, rfl⟩
      rw [← hf1] at hUF
      have HF1 : Hid (f1 = _) := hf1
      have f12 : f1 2 = .slice (some ⟨wb, 0, none⟩) k k := by rw [hf1]; rfl
      clear hf1
      have hUK : CMv.Walks t U wb U.heap.size k 0 cb x y := ⟨_, hUW, zer_size _ _ _, fun j hj => by omega⟩
      go_loopw [6, 7, 70] (fun _ _ s70 wr => ∃ m : Nat, s70 = .int .i64 m ∧ m ≤ k ∧ CMv.Walks t wr wb wr.heap.size k m cb x y ∧ Fd wr (G + 1) f1 ∧ w.grownBy wr none) (fun _ _ s70 _ => k - (intOf s70).toNat)
      case atStart => exact ⟨0, rfl, Nat.zero_le _, hUK, hUF, hUg⟩
      case round =>
        obtain ⟨m, rfl, hm, hWk, hFd, hg⟩ := hrel
        clear hUK hUF hUg hUW hUs
        have hwbl := hWk.lt
        by_cases hlt : m < k
        · obtain ⟨cu, hcu, hcs, hcc⟩ := hP
          obtain ⟨p0, p1, p2⟩ := hcc m hlt
          have e0 := hg.cell ((cell_of_row w psb (m * 3) _ _ _ hcu).trans p0) (by simp)
          have e1 := hg.cell ((cell_of_row w psb (m * 3 + 1) _ _ _ hcu).trans p1) (by simp)
          have e2 := hg.cell ((cell_of_row w psb (m * 3 + 2) _ _ _ hcu).trans p2) (by simp)
          have c37' := hg.cell c37 (by simp)
          have HC : Hid (∀ w' : World, w'.cell? ⟨cb, 37, none⟩ = some (.int .u64 0) → Calls Yba.prog 36 #[.pointer (some ⟨cb, 0, none⟩), .agg #[.int .u32 0, .float .f64 (fI (x m)), .float .f64 (fI (y m))]] w' fun e w'' => ∃ g h, e = .returned (.agg #[.pointer (some ⟨cb, 0, none⟩), .pointer (some ⟨g, 0, none⟩), .float .f64 (fI (x m)), .float .f64 (fI (y m)), .float .f64 (fI (x m)), .float .f64 (fI (y m)), .float .f64 0, .float .f64 0, .float .f64 0, .float .f64 0, .int .i64 0, .int .i64 0, .int .i64 0]) ∧ w'.heap.size ≤ g ∧ w'.heap.size ≤ h ∧ CMv.Rok w'' g h ∧ w'.grownBy w'' none) := fun w' h => CMv.new_walk cb (x m) (y m) w' h
          have k1 : (m : Int) < (k : Int) := by omega
          clear p0 p1 p2 hcu hcs hcc
          generalize hFX : fI (x m) = FX at *
          generalize hFY : fI (y m) = FY at *
          have HFX : Hid (fI (x m) = FX ∧ fI (y m) = FY) := ⟨hFX, hFY⟩
          clear hFX hFY
          go_wp2
          obtain ⟨V, hV⟩ : ∃ V, V = wr.alloc (.cells #[.int .u32 0, .float .f64 FX, .float .f64 FY] 98 (0, 0)) := ⟨_, rfl⟩
          have hVn : V.heap[wr.heap.size]? = some (.cells #[.int .u32 0, .float .f64 FX, .float .f64 FY] 98 (0, 0)) := by rw [hV]; exact heap_alloc_new wr _
          have hVo : ∀ q, q < wr.heap.size → V.heap[q]? = wr.heap[q]? := fun q hq => by rw [hV]; exact heap_alloc_old wr _ hq
          have hVs : V.heap.size = wr.heap.size + 1 := by rw [hV]; exact World.size_alloc ..
          have hVg : w.grownBy V none := by rw [hV]; exact CSort.grown_trans hg (CSort.grown_alloc wr _ none)
          have hVF : Fd V (G + 1) f1 := hFd.at (hVo (G + 1) hFd.lt)
          have hVW : CMv.Walks t V wb wr.heap.size k m cb x y := hWk.at (fun q _ hq => hVo q (by omega))
          have c37V := hVg.cell c37 (by simp)
          have g2 : V.cell? ⟨G + 1, 2, none⟩ = some (.slice (some ⟨wb, 0, none⟩) k k) := by rw [← f12]; exact hVF.cell 2 (by decide)
          obtain ⟨PB, hPB⟩ : ∃ PB, PB = wr.heap.size := ⟨_, rfl⟩
          rw [← hV]
          rw [← hPB] at hVn hVs hVW hwbl ⊢
          have HPB : Hid (PB = wr.heap.size) := hPB
          have t0 : V.cell? ⟨PB, 0, none⟩ = some (.int .u32 0) := by rw [cell_of_row _ _ _ _ _ _ hVn]; rfl
          have t1 : V.cell? ⟨PB, 1, none⟩ = some (.float .f64 FX) := by rw [cell_of_row _ _ _ _ _ _ hVn]; rfl
          have t2 : V.cell? ⟨PB, 2, none⟩ = some (.float .f64 FY) := by rw [cell_of_row _ _ _ _ _ _ hVn]; rfl
          obtain ⟨cur, a1, a2, a3⟩ := hVW
          have hWV : CMv.Wk V wb (m * 13) cur (fun i => (cur[m * 13 + i]?).getD undef) := ⟨cur, a1, rfl, fun i hi => by show cur[m * 13 + i]? = some ((cur[m * 13 + i]?).getD undef); rw [Array.getElem?_eq_getElem (by omega)]; rfl, fun _ _ => rfl⟩
          have HA3 : Hid (cur.size = k * 13 ∧ ∀ j, j < m → ∃ g h v, (wb < g ∧ g < PB) ∧ (wb < h ∧ h < PB) ∧ CMv.Rok V g h ∧ (∀ i, i < 13 → cur[j * 13 + i]? = some (v i)) ∧ CMv.Vst t cb g (x j) (y j) v) := ⟨a2, a3⟩
          clear hV hVo hPB e0 e1 e2 c37' hWk hFd hg a1 a2 a3 hVn
          go_region_held3 (fun w' => w'.cell? ⟨G + 1, 2, none⟩ = some (.slice (some ⟨wb, 0, none⟩) k k) ∧ w'.cell? ⟨PB, 0, none⟩ = some (.int .u32 0) ∧ w'.cell? ⟨PB, 1, none⟩ = some (.float .f64 FX) ∧ w'.cell? ⟨PB, 2, none⟩ = some (.float .f64 FY)) (first | with_reducible exact hk1 | (refine ⟨?_, ?_, ?_, ?_⟩ <;> (repeat rw [CMv.cell_set _ _ _ _ _ _ (by omega)]) <;> first | with_reducible exact hk1.1 | with_reducible exact hk1.2.1 | with_reducible exact hk1.2.2.1 | with_reducible exact hk1.2.2.2) | go_keep) ((go_at_call 36; refine (HC.out _ (by exact c37V)).mono ?_; rintro e w2 ⟨g, h, rfl, hg1, hg2, hrk, hgr⟩; have hk1 : w2.cell? ⟨G + 1, 2, none⟩ = some (.slice (some ⟨wb, 0, none⟩) k k) ∧ w2.cell? ⟨PB, 0, none⟩ = some (.int .u32 0) ∧ w2.cell? ⟨PB, 1, none⟩ = some (.float .f64 FX) ∧ w2.cell? ⟨PB, 2, none⟩ = some (.float .f64 FY) := ⟨hgr.cell g2 (by simp), hgr.cell t0 (by simp), hgr.cell t1 (by simp), hgr.cell t2 (by simp)⟩; have hkk := hWV.at (hgr.block wb (by show wb < V.heap.size; omega) (by simp)); have x0 : w2.cell? ⟨wb, m * 13, none⟩ = some _ := hkk.cell 0 (by decide); have y0 := hkk.frozen (m * 13); have x1 : w2.cell? ⟨wb, m * 13 + 1, none⟩ = some _ := hkk.cell 1 (by decide); have y1 := hkk.frozen (m * 13 + 1); have x2 : w2.cell? ⟨wb, m * 13 + 2, none⟩ = some _ := hkk.cell 2 (by decide); have y2 := hkk.frozen (m * 13 + 2); have x3 : w2.cell? ⟨wb, m * 13 + 3, none⟩ = some _ := hkk.cell 3 (by decide); have y3 := hkk.frozen (m * 13 + 3); have x4 : w2.cell? ⟨wb, m * 13 + 4, none⟩ = some _ := hkk.cell 4 (by decide); have y4 := hkk.frozen (m * 13 + 4); have x5 : w2.cell? ⟨wb, m * 13 + 5, none⟩ = some _ := hkk.cell 5 (by decide); have y5 := hkk.frozen (m * 13 + 5); have x6 : w2.cell? ⟨wb, m * 13 + 6, none⟩ = some _ := hkk.cell 6 (by decide); have y6 := hkk.frozen (m * 13 + 6); have x7 : w2.cell? ⟨wb, m * 13 + 7, none⟩ = some _ := hkk.cell 7 (by decide); have y7 := hkk.frozen (m * 13 + 7); have x8 : w2.cell? ⟨wb, m * 13 + 8, none⟩ = some _ := hkk.cell 8 (by decide); have y8 := hkk.frozen (m * 13 + 8); have x9 : w2.cell? ⟨wb, m * 13 + 9, none⟩ = some _ := hkk.cell 9 (by decide); have y9 := hkk.frozen (m * 13 + 9); have x10 : w2.cell? ⟨wb, m * 13 + 10, none⟩ = some _ := hkk.cell 10 (by decide); have y10 := hkk.frozen (m * 13 + 10); have x11 : w2.cell? ⟨wb, m * 13 + 11, none⟩ = some _ := hkk.cell 11 (by decide); have y11 := hkk.frozen (m * 13 + 11); have x12 : w2.cell? ⟨wb, m * 13 + 12, none⟩ = some _ := hkk.cell 12 (by decide); have y12 := hkk.frozen (m * 13 + 12)))
          have hch := ch13 w2 wb (m * 13) (.pointer (some ⟨cb, 0, none⟩)) (.pointer (some ⟨g, 0, none⟩)) (.float .f64 FX) (.float .f64 FY) (.float .f64 FX) (.float .f64 FY) (.float .f64 0) (.float .f64 0) (.float .f64 0) (.float .f64 0) (.int .i64 0) (.int .i64 0) (.int .i64 0)
          have hwk := wk13 hkk (.pointer (some ⟨cb, 0, none⟩)) (.pointer (some ⟨g, 0, none⟩)) (.float .f64 FX) (.float .f64 FY) (.float .f64 FX) (.float .f64 FY) (.float .f64 0) (.float .f64 0) (.float .f64 0) (.float .f64 0) (.int .i64 0) (.int .i64 0) (.int .i64 0)
          obtain ⟨Z, hZ⟩ : ∃ Z, Z = (((((((((((((w2.setCell ⟨wb, m * 13, none⟩ (.pointer (some ⟨cb, 0, none⟩))).setCell ⟨wb, m * 13 + 1, none⟩ (.pointer (some ⟨g, 0, none⟩))).setCell ⟨wb, m * 13 + 2, none⟩ (.float .f64 FX)).setCell ⟨wb, m * 13 + 3, none⟩ (.float .f64 FY)).setCell ⟨wb, m * 13 + 4, none⟩ (.float .f64 FX)).setCell ⟨wb, m * 13 + 5, none⟩ (.float .f64 FY)).setCell ⟨wb, m * 13 + 6, none⟩ (.float .f64 0)).setCell ⟨wb, m * 13 + 7, none⟩ (.float .f64 0)).setCell ⟨wb, m * 13 + 8, none⟩ (.float .f64 0)).setCell ⟨wb, m * 13 + 9, none⟩ (.float .f64 0)).setCell ⟨wb, m * 13 + 10, none⟩ (.int .i64 0)).setCell ⟨wb, m * 13 + 11, none⟩ (.int .i64 0)).setCell ⟨wb, m * 13 + 12, none⟩ (.int .i64 0)) := ⟨_, rfl⟩
          rw [← hZ] at hch hwk ⊢
          rename_i hheld
          clear hZ x0 x1 x2 x3 x4 x5 x6 x7 x8 x9 x10 x11 x12 y0 y1 y2 y3 y4 y5 y6 y7 y8 y9 y10 y11 y12 hk1 t0 t1 t2 g2 hheld hWV hkk
          have hVle : V.heap.size ≤ w2.heap.size := hgr.size
          have hgV : V.heap.size ≤ g := hg1
          have hhV : V.heap.size ≤ h := hg2
          have hrZ : CMv.Rok Z g h := hrk.at (by obtain ⟨⟨_, _, _, q⟩, _⟩ := hrk; exact hch.block h (CMv.heap_lt q) (by omega)) (by obtain ⟨_, q⟩ := hrk; exact hch.block g (CMv.heap_lt q) (by omega))
          have hgZ : g < Z.heap.size := by obtain ⟨_, q⟩ := hrZ; exact CMv.heap_lt q
          have hhZ : h < Z.heap.size := by obtain ⟨⟨_, _, _, q⟩, _⟩ := hrZ; exact CMv.heap_lt q
          have hFZ : Fd Z (G + 1) f1 := (hVF.at (hgr.block (G + 1) hVF.lt (by simp))).at (hch.block (G + 1) (Nat.lt_of_lt_of_le hVF.lt hVle) (by omega))
          have hGZ : w.grownBy Z none := grown_ch (CSort.grown_trans (CSort.grown_drewN hVg 1) hgr) hch (by have := HG.out; omega)
          have hWZ : CMv.Walks t Z wb Z.heap.size k (m + 1) cb x y := by
            obtain ⟨cur', b1, b2, b3, b4⟩ := hwk
            refine ⟨cur', b1, by rw [b2]; exact HA3.out.1, fun j hj => ?_⟩
            by_cases ej : j = m
            · subst ej
              refine ⟨g, h, _, ⟨by omega, hgZ⟩, ⟨by omega, hhZ⟩, hrZ, b3, .inl ?_⟩
              obtain ⟨hx, hy⟩ := HFX.out
              funext i
              unfold list13 CMv.fresh
              rw [hx, hy]
              match i with
              | 0 | 1 | 2 | 3 | 4 | 5 | 6 | 7 | 8 | 9 | 10 | 11 => rfl
              | _ + 12 => rfl
            · obtain ⟨g', h', v, d1, d2, d3, d4, d5⟩ := HA3.out.2 j (by omega)
              have hZs : V.heap.size ≤ Z.heap.size := Nat.le_trans hVle hch.size
              refine ⟨g', h', v, ⟨d1.1, by omega⟩, ⟨d2.1, by omega⟩, ?_, fun i hi => ?_, d5⟩
              · exact d3.at ((hch.block h' (by omega) (by omega)).trans (hgr.block h' (by show h' < V.heap.size; omega) (by simp))) ((hch.block g' (by omega) (by omega)).trans (hgr.block g' (by show g' < V.heap.size; omega) (by simp)))
              · rw [b4 (j * 13 + i) (by omega)]
                exact d4 i hi
          go_wp2
          go_roundw
          case rel => exact ⟨m + 1, by go_num, by omega, hWZ, hFZ, hGZ⟩
          case measure => simp [intOf]; omega
        · obtain rfl : m = k := by omega
          have hGs : G = w.heap.size := HG.out
          have HG' : Hid (G = w.heap.size) := hGs
          clear hGs
          obtain ⟨i1, i2, i3, i4⟩ := HFL.out
          have d0 := hg.cell c0 (by simp)
          have d1 := hg.cell c1 (by simp)
          have d5 := hg.cell c5 (by simp)
          obtain ⟨we, hwe⟩ : ∃ we, we = wr.heap.size := ⟨_, rfl⟩
          rw [← hwe] at hWk
          have HWE : Hid (we = wr.heap.size) := hwe
          have hwel : wb < we := by omega
          clear hwe
          have hcG : cb ≠ G + 1 := by omega
          go_wp2
          go_region_held3 (fun w' => w'.cell? ⟨cb, 1, none⟩ = some (.float .f64 R) ∧ w'.cell? ⟨cb, 5, none⟩ = some (.float .f64 0)) (first | with_reducible exact hk1 | (refine ⟨?_, ?_⟩ <;> (repeat rw [CMv.cell_set _ _ _ _ _ _ (by omega)]) <;> first | with_reducible exact hk1.1 | with_reducible exact hk1.2) | go_keep) ((go_at_call 37; refine (HSL.out _).mono ?_; rintro e w2 ⟨rfl, tt, hw2⟩; have hF2 : Fd w2 (G + 1) f1 := hFd.at (by cases hw2; rfl); have hg2 : w.grownBy w2 none := (by cases hw2; exact CSort.grown_drewN (CSort.grown_drewN hg 1) tt); have hW2 : CMv.Walks t w2 wb we m m cb x y := hWk.at (fun q _ _ => by cases hw2; rfl); have hs2 : we ≤ w2.heap.size := (Nat.le_of_eq (by cases hw2; exact HWE.out)); clear hw2; have hk1 : w2.cell? ⟨cb, 1, none⟩ = some (.float .f64 R) ∧ w2.cell? ⟨cb, 5, none⟩ = some (.float .f64 0) := ⟨hg2.cell c1 (by simp), hg2.cell c5 (by simp)⟩; have x6 := hF2.cell 6 (by decide); have y6 := hF2.frozen 6))
          obtain ⟨W3, hW3⟩ : ∃ W3, W3 = w2.setCell ⟨G + 1, 6, none⟩ (.int .i64 3153600000000000000) := ⟨_, rfl⟩
          have hF3 := hF2.set 6 (.int .i64 3153600000000000000) (by decide)
          have hC3 : CMv.Ch (fun q => q = G + 1) w2 (w2.setCell ⟨G + 1, 6, none⟩ (.int .i64 3153600000000000000)) := (CMv.Ch.refl _ w2).setCell _ _ _ (fun _ => rfl)
          rw [← hW3] at hF3 hC3 ⊢
          have hg3 : w.grownBy W3 none := grown_ch hg2 hC3 (by have := HG'.out; omega)
          have hW3' : CMv.Walks t W3 wb we m m cb x y := hW2.at (fun q _ hq => hC3.block q (by omega) (by omega))
          have hs3 : we ≤ W3.heap.size := Nat.le_trans hs2 hC3.size
          rename_i hheld
          clear hW3 hheld x6 y6 hk1 hF2 hg2 hW2 hs2 hC3 d0 d1 d5 hFd hg hWk hwbl
          have d1 := hg3.cell c1 (by simp)
          have d5 := hg3.cell c5 (by simp)
          have x6 : W3.cell? ⟨G + 1, 6, none⟩ = some (.int .i64 3153600000000000000) := hF3.cell 6 (by decide)
          have x7 := hF3.cell 7 (by decide)
          have y7 := hF3.frozen 7
          have hk2 : ∀ u, (W3.setCell ⟨G + 1, 7, none⟩ u).drew.cell? ⟨cb, 1, none⟩ = some (.float .f64 R) ∧ (W3.setCell ⟨G + 1, 7, none⟩ u).drew.cell? ⟨cb, 5, none⟩ = some (.float .f64 0) ∧ (W3.setCell ⟨G + 1, 7, none⟩ u).drew.cell? ⟨G + 1, 6, none⟩ = some (.int .i64 3153600000000000000) := fun u => ⟨(CMv.cell_set _ _ _ _ _ _ (by omega)).trans d1, (CMv.cell_set _ _ _ _ _ _ (by omega)).trans d5, (CMv.cell_set _ _ _ _ _ _ (by omega)).trans x6⟩
          go_wp2
          go_region_held3 (fun w' => w'.cell? ⟨cb, 1, none⟩ = some (.float .f64 R) ∧ w'.cell? ⟨cb, 5, none⟩ = some (.float .f64 0) ∧ w'.cell? ⟨G + 1, 6, none⟩ = some (.int .i64 3153600000000000000)) (first | go_keep | exact hk2 _) ((go_at_call 38; refine (HSE.out _).mono ?_; rintro e w2 ⟨rfl, rfl⟩))
          obtain ⟨W4, hW4⟩ : ∃ W4, W4 = (W3.setCell ⟨G + 1, 7, none⟩ (.float .f64 R1)).drew := ⟨_, rfl⟩
          have hF4 : Fd W4 (G + 1) (CMv.upd (CMv.upd f1 6 (.int .i64 3153600000000000000)) 7 (.float .f64 R1)) := by rw [hW4]; exact (hF3.set 7 (.float .f64 R1) (by decide)).at rfl
          have hC4 : CMv.Ch (fun q => q = G + 1) W3 W4 := by rw [hW4]; exact ((CMv.Ch.refl (fun q => q = G + 1) W3).setCell (G + 1) _ _ (fun _ => rfl)).drew 1
          rename_i hheld
          rw [← hW4]
          clear hheld hk2 hW4 d1 d5 x6 x7 y7 hF3
          have x7 : W4.cell? ⟨G + 1, 7, none⟩ = some (.float .f64 R1) := hF4.cell 7 (by decide)
          have x3 := hF4.cell 3 (by decide)
          have y3 := hF4.frozen 3
          go_upto_region 18 with (go_at_call 35; refine (HG2.out _).mono ?_; rintro e w2 ⟨rfl, rfl⟩)
          obtain ⟨W5, hW5⟩ : ∃ W5, W5 = w2.setCell ⟨G + 1, 3, none⟩ (.float .f64 R1) := ⟨_, rfl⟩
          have hF5 : Fd W5 (G + 1) (CMv.upd (CMv.upd (CMv.upd f1 6 (.int .i64 3153600000000000000)) 7 (.float .f64 R1)) 3 (.float .f64 R1)) := by rw [hW5]; exact hF4.set 3 (.float .f64 R1) (by decide)
          have hC5 : CMv.Ch (fun q => q = G + 1) W3 W5 := by rw [hW5]; exact hC4.setCell _ _ _ (fun _ => rfl)
          rw [← hW5]
          clear hW5 x7 x3 y3 hF4 hC4
          have hg5 : w.grownBy W5 none := grown_ch hg3 hC5 (by have := HG'.out; omega)
          have hW5' : CMv.Walks t W5 wb we m m cb x y := hW3'.at (fun q _ hq => hC5.block q (by omega) (by omega))
          have hs5 : we ≤ W5.heap.size := Nat.le_trans hs3 hC5.size
          have d0 := hg5.cell c0 (by simp)
          have mk := make94 m (by omega)
          have e9 : ∀ o, (W5.alloc o).cell? ⟨G + 1, 9, none⟩ = some _ := fun o => (hF5.at (heap_alloc_old W5 o hF5.lt)).cell 9 (by decide)
          have f9 : ∀ o, (W5.alloc o).frozen? ⟨G + 1, 9, none⟩ = false := fun o => (hF5.at (heap_alloc_old W5 o hF5.lt)).frozen 9
          have e8 : ∀ o, (W5.alloc o).cell? ⟨G + 1, 8, none⟩ = some _ := fun o => (hF5.at (heap_alloc_old W5 o hF5.lt)).cell 8 (by decide)
          have f8 : ∀ o, (W5.alloc o).frozen? ⟨G + 1, 8, none⟩ = false := fun o => (hF5.at (heap_alloc_old W5 o hF5.lt)).frozen 8
          clear hs3 hW3' hg3 hC5
          go_wp2
          go_ret
          have hA : Fd (W5.alloc (.cells (zer (.slice none 0 0) 1 m) 61 (0, 0))) (G + 1) _ := hF5.at (heap_alloc_old W5 _ hF5.lt)
          have hB := (hA.set 9 (.slice (some ⟨W5.heap.size, 0, none⟩) m m) (by decide)).set 8 (.int .i64 (-1)) (by decide)
          have hCh : CMv.Ch (fun q => q = G + 1) W5 (((W5.alloc (.cells (zer (.slice none 0 0) 1 m) 61 (0, 0))).setCell ⟨G + 1, 9, none⟩ (.slice (some ⟨W5.heap.size, 0, none⟩) m m)).setCell ⟨G + 1, 8, none⟩ (.int .i64 (-1))) := (((CMv.Ch.refl (fun q => q = G + 1) W5).alloc _).setCell (G + 1) _ _ (fun _ => rfl)).setCell (G + 1) _ _ (fun _ => rfl)
          have hNB : (((W5.alloc (.cells (zer (.slice none 0 0) 1 m) 61 (0, 0))).setCell ⟨G + 1, 9, none⟩ (.slice (some ⟨W5.heap.size, 0, none⟩) m m)).setCell ⟨G + 1, 8, none⟩ (.int .i64 (-1))).heap[W5.heap.size]? = some (.cells (zer (.slice none 0 0) 1 m) 61 (0, 0)) := by
            have hne : W5.heap.size ≠ G + 1 := by have := hF5.lt; omega
            rw [heap_setCell_other _ ⟨G + 1, 8, none⟩ W5.heap.size _ hne, heap_setCell_other _ ⟨G + 1, 9, none⟩ W5.heap.size _ hne]
            exact heap_alloc_new W5 _
          have hG := HG'.out
          have hf1 := HF1.out
          subst hf1
          have hgF := grown_ch hg5 hCh (by omega)
          have hWF := hW5'.at (fun q _ hq => hCh.block q (by omega) (by omega))
          subst hG
          obtain ⟨cur, a1, a2, a3⟩ := hB
          exact ⟨cur, wb, we, W5.heap.size, rfl, a1, a2, ⟨a3 0 (by decide), a3 1 (by decide), a3 2 (by decide), a3 3 (by decide), a3 4 (by decide), a3 6 (by decide), a3 7 (by decide), a3 8 (by decide), a3 9 (by decide), a3 10 (by decide), a3 11 (by decide)⟩, hNB, hWF, ⟨by omega, hwel, hs5⟩, hgF⟩
end Go.Proofs.Ybulkyyu.CLaw
