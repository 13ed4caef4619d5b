/- The law's own set-up where the nodes move. -/
import Derived.Test.YbulkyyuCConfig
namespace Go.Proofs.Ybulkyyu.CLaw
open Go.RowKit
open Go.Proofs.Ybulkyyu.CF (fI fInf)
open Go.Proofs.Ybulkyyu.CMap (st_float)

set_option maxRecDepth 100000 in
set_option maxHeartbeats 4000000 in
theorem config_moving (a : Option Addr) (n c : Nat) (X Y : Nat → Int) (r : Nat) (w : World) (hn : n ≤ 1024) (hN : Nodes w.heap.size w a n X Y) :
    Calls Yba.prog 20 #[.slice a n c, .int .u8 r, .bool true] w fun e w' => ∃ cc, e = .returned (.pointer (some ⟨w.heap.size + 1, 0, none⟩)) ∧ w'.heap[w.heap.size + 1]? = some (.cells cc 89 (0, 0)) ∧ (cc[0]? = some (.slice (some ⟨w.heap.size, 0, none⟩) n n) ∧ cc[1]? = some (.float .f64 (fI r)) ∧ cc[2]? = some (.int .i64 1)) ∧ (cc[3]? = some (.float .f64 4607182418800017408) ∧ cc[4]? = some (.float .f64 0) ∧ cc[5]? = some (.float .f64 0) ∧ cc[6]? = some (.int .i64 0) ∧ cc[37]? = some (.int .u64 0)) ∧
      Pos w' w.heap.size n n (fun j => 2 + X j) (fun j => 2 + Y j) ∧ w.grownBy w' none := by
  obtain ⟨b, off, rfl, hb, hcell⟩ := hN
  have mk := make80 n (by omega)
  have stf := st_float
  obtain ⟨W, hW⟩ : ∃ W, W = w.alloc (.cells (zer (.agg #[.int .u32 0, .float .f64 0, .float .f64 0]) 3 n) 98 (0, 0)) := ⟨_, rfl⟩
  have hP0 : Pos W w.heap.size n 0 (fun j => 2 + X j) (fun j => 2 + Y j) := ⟨_, by rw [hW]; exact heap_alloc_new w _, zer_size _ _ _, fun j hj => by omega⟩
  have hg0 : w.grownBy W none := by rw [hW]; exact CSort.grown_alloc w _ none
  have hs0 : W.heap.size = w.heap.size + 1 := by rw [hW]; exact World.size_alloc ..
  go_enter Yba.func20, Yba.ntmps20
  go_wp2
  rw [← hW]
  clear hW mk
  obtain ⟨G, hG⟩ : ∃ G, G = w.heap.size := ⟨_, rfl⟩
  rw [← hG] at hP0 hs0 ⊢
  have HG : Hid (G = w.heap.size) := hG
  have hbG : b < G := by omega
  clear hG
  go_loopw [8, 15] (fun _ s15 wr => ∃ k : Nat, s15 = .int .i64 k ∧ k ≤ n ∧ Pos wr G n k (fun j => 2 + X j) (fun j => 2 + Y j) ∧ w.grownBy wr none ∧ wr.heap.size = G + 1) (fun _ s15 _ => n - (intOf s15).toNat)
  case atStart => exact ⟨0, rfl, Nat.zero_le _, hP0, hg0, hs0⟩
  case round =>
    obtain ⟨k, rfl, hk, hP, hg, hsz⟩ := hrel
    by_cases hlt : k < n
    · obtain ⟨⟨c1, c2⟩, ⟨x1, x2⟩, y1, y2⟩ := hcell k hlt
      have d1 := hg.cell c1 (by simp)
      have d2 := hg.cell c2 (by simp)
      have hnx := hP.next hlt
      have e1 := fun t w => add_two (X k) x1 x2 t w
      have e2 := fun t w => add_two (Y k) y1 y2 t w
      obtain ⟨cur, hcg, hcs, _⟩ := hP
      have s0 : wr.cell? ⟨G, k * 3, none⟩ = some cur[k * 3] := by rw [cell_of_row _ _ _ _ _ _ hcg]; exact Array.getElem?_eq_getElem (by omega)
      have s1 : wr.cell? ⟨G, k * 3 + 1, none⟩ = some cur[k * 3 + 1] := by rw [cell_of_row _ _ _ _ _ _ hcg]; exact Array.getElem?_eq_getElem (by omega)
      have s2 : wr.cell? ⟨G, k * 3 + 2, none⟩ = some cur[k * 3 + 2] := by rw [cell_of_row _ _ _ _ _ _ hcg]; exact Array.getElem?_eq_getElem (by omega)
      have f0 : wr.frozen? ⟨G, k * 3, none⟩ = false := frozen_of_row _ _ _ _ _ hcg
      have f1 : wr.frozen? ⟨G, k * 3 + 1, none⟩ = false := frozen_of_row _ _ _ _ _ hcg
      have f2 : wr.frozen? ⟨G, k * 3 + 2, none⟩ = false := frozen_of_row _ _ _ _ _ hcg
      generalize cur[k * 3] = u0 at s0
      generalize cur[k * 3 + 1] = u1 at s1
      generalize cur[k * 3 + 2] = u2 at s2
      have k1 : (k : Int) < (n : Int) := by omega
      have HNX : Hid (Pos (((wr.setCell ⟨G, k * 3, none⟩ (.int .u32 0)).setCell ⟨G, k * 3 + 1, none⟩ (.float .f64 (fI (2 + X k)))).setCell ⟨G, k * 3 + 2, none⟩ (.float .f64 (fI (2 + Y k)))) G n (k + 1) (fun j => 2 + X j) (fun j => 2 + Y j)) := hnx
      clear c1 c2 hcell hnx hcg hcs x1 x2 y1 y2
      generalize fI (2 + X k) = FX at *
      generalize fI (2 + Y k) = FY at *
      generalize X k = xk at *
      generalize Y k = yk at *
      go_wp2
      go_region
      go_wp2
      go_roundw
      case rel =>
        have hG := HG.out
        exact ⟨k + 1, by go_num, by omega, HNX.out, CF.grown_draw (CF.grown_new_cell (CF.grown_new_cell (CF.grown_new_cell hg _ _ _ (by omega)) _ _ _ (by omega)) _ _ _ (by omega)) 1, by show (World.setCell _ _ _).heap.size = _; rw [World.size_setCell, World.size_setCell, World.size_setCell]; exact hsz⟩
      case measure => simp [intOf]; omega
    · obtain rfl : k = n := by omega
      have HSZ : Hid (wr.heap.size = G + 1) := hsz
      clear hsz
      go_wp2
      go_ret
      have hs := HSZ.out
      have hG := HG.out
      subst hG
      refine ⟨_, by rw [← hs]; rfl, by rw [← hs]; exact heap_alloc_new wr _, ⟨rfl, rfl, rfl⟩, ⟨rfl, rfl, rfl, rfl, rfl⟩, ?_, CSort.grown_trans hg (CSort.grown_alloc wr _ none)⟩
      obtain ⟨cur, hcg, hr2⟩ := hP
      exact ⟨cur, (heap_alloc_old wr _ (by omega)).trans hcg, hr2⟩
end Go.Proofs.Ybulkyyu.CLaw
