/- grid.cellOf. -/
import Derived.Test.YbulkyyuCCell
import Derived.Deep.CutBlock
import Derived.Deep.RegionWith
namespace Go.Proofs.Ybulkyyu.CF
open Ieee Go.RowKit

theorem three (w : World) (o1 o2 o3 : Obj) : ((w.alloc o1).alloc o2).alloc o3 |>.heap[w.heap.size]? = some o1 ∧ (((w.alloc o1).alloc o2).alloc o3).heap[w.heap.size + 1]? = some o2 ∧ (((w.alloc o1).alloc o2).alloc o3).heap[w.heap.size + 1 + 1]? = some o3 ∧ w.grownBy (((w.alloc o1).alloc o2).alloc o3) none := by
  have s1 : (w.alloc o1).heap.size = w.heap.size + 1 := World.size_alloc ..
  have s2 : ((w.alloc o1).alloc o2).heap.size = w.heap.size + 1 + 1 := by rw [World.size_alloc, s1]
  have s3 : (((w.alloc o1).alloc o2).alloc o3).heap.size = w.heap.size + 1 + 1 + 1 := by rw [World.size_alloc, s2]
  have n1 := heap_alloc_new w o1
  have n2 := heap_alloc_new (w.alloc o1) o2
  have n3 := heap_alloc_new ((w.alloc o1).alloc o2) o3
  rw [s1] at n2
  rw [s2] at n3
  refine ⟨?_, ?_, n3, ⟨rfl, rfl, rfl, by omega, fun k hk _ => ?_⟩⟩
  · rw [heap_alloc_old ((w.alloc o1).alloc o2) o3 (by omega), heap_alloc_old (w.alloc o1) o2 (by omega), n1]
  · rw [heap_alloc_old ((w.alloc o1).alloc o2) o3 (by omega), n2]
  · rw [heap_alloc_old ((w.alloc o1).alloc o2) o3 (by omega), heap_alloc_old (w.alloc o1) o2 (by omega), heap_alloc_old w o1 hk]

theorem grown_new_cell {w w' : World} (h : w.grownBy w' none) (b i : Nat) (v : Value) (hb : w.heap.size ≤ b) : w.grownBy (w'.setCell ⟨b, i, none⟩ v) none :=
  ⟨h.os, h.tape, h.output, by rw [World.size_setCell]; exact h.size, fun k hk hne => by
    rw [heap_setCell_other w' ⟨b, i, none⟩ k v (fun e => by have e' : k = b := e; omega)]
    exact h.block k hk hne⟩
theorem grown_draw {w w' : World} {r : Option Nat} (h : w.grownBy w' r) (q : Nat) : w.grownBy (w'.drewN q) r := ⟨h.os, h.tape, h.output, h.size, h.block⟩

set_option maxRecDepth 100000 in
set_option maxHeartbeats 4000000 in
theorem cellOf_any (C x y qx qy : Nat) (gp : Addr) (w : World) (hx : Idx C x qx) (hy : Idx C y qy) (hqx : qx ≤ 1000) (hqy : qy ≤ 1000) (hc : w.cell? gp = some (.float .f64 C)) :
    Calls Yba.prog 56 #[.pointer (some gp), .agg #[.float .f64 (fI x), .float .f64 (fI y)]] w fun e w' => e = .returned (.agg #[.int .i64 qx, .int .i64 qy]) ∧ w.grownBy w' none := by
  obtain ⟨b1, b2, b3, hg⟩ := three w (.cells #[.pointer (some gp)] 125 (0, 0)) (.cells #[.float .f64 (fI x), .float .f64 (fI y)] 100 (0, 0)) (.cells #[.int .i64 0, .int .i64 0] 126 (0, 0))
  go_enter Yba.func56, Yba.ntmps56
  go_wp2
  obtain ⟨W, hW⟩ : ∃ W, W = (((w.alloc (Obj.cells #[Value.pointer (some gp)] 125)).alloc
          (Obj.cells #[Value.float FloatKind.f64 (fI x), Value.float FloatKind.f64 (fI y)] 100)).alloc
      (Obj.cells #[Value.int IntKind.i64 0, Value.int IntKind.i64 0] 126)) := ⟨_, rfl⟩
  rw [← hW] at b1 b2 b3 hg ⊢
  clear hW
  have hcW : W.cell? gp = some (.float .f64 C) := hg.cell hc (by simp)
  have c1 : W.cell? ⟨w.heap.size, 0, none⟩ = some (.pointer (some gp)) := by rw [cell_of_row W _ 0 _ _ _ b1]; rfl
  have c2 : W.cell? ⟨w.heap.size + 1, 0, none⟩ = some (.float .f64 (fI x)) := by rw [cell_of_row W _ 0 _ _ _ b2]; rfl
  have c3 : W.cell? ⟨w.heap.size + 1, 1, none⟩ = some (.float .f64 (fI y)) := by rw [cell_of_row W _ 1 _ _ _ b2]; rfl
  have c4 : W.cell? ⟨w.heap.size + 1 + 1, 0, none⟩ = some (.int .i64 0) := by rw [cell_of_row W _ 0 _ _ _ b3]; rfl
  have c5 : W.cell? ⟨w.heap.size + 1 + 1, 1, none⟩ = some (.int .i64 0) := by rw [cell_of_row W _ 1 _ _ _ b3]; rfl
  have f4 : W.frozen? ⟨w.heap.size + 1 + 1, 0, none⟩ = false := frozen_of_row W _ 0 _ _ b3
  have f5 : W.frozen? ⟨w.heap.size + 1 + 1, 1, none⟩ = false := frozen_of_row W _ 1 _ _ b3
  clear b1 b2
  obtain ⟨B, hB⟩ : ∃ B, B = w.heap.size := ⟨_, rfl⟩
  rw [← hB] at b3 c1 c2 c3 c4 c5 f4 f5 ⊢
  have HB : Hid (B = w.heap.size) := hB
  clear hB
  obtain ⟨X, hX⟩ : ∃ X, X = fI x := ⟨_, rfl⟩
  obtain ⟨Y, hY⟩ : ∃ Y, Y = fI y := ⟨_, rfl⟩
  rw [← hX] at c2 ⊢
  rw [← hY] at c3 ⊢
  have i1 : ∀ w : World, w.cell? ⟨B, 0, none⟩ = some (.pointer (some gp)) → w.cell? gp = some (.float .f64 C) → Calls Yba.prog 63 #[.float .f64 X, .pointer (some ⟨B, 0, none⟩)] w fun e w' => e = .returned (.int .i64 qx) ∧ w' = w := fun w h1 h2 => by rw [hX]; exact index_any C x qx gp B w hx hqx h1 h2
  have i2 : ∀ w : World, w.cell? ⟨B, 0, none⟩ = some (.pointer (some gp)) → w.cell? gp = some (.float .f64 C) → Calls Yba.prog 63 #[.float .f64 Y, .pointer (some ⟨B, 0, none⟩)] w fun e w' => e = .returned (.int .i64 qy) ∧ w' = w := fun w h1 h2 => by rw [hY]; exact index_any C y qy gp B w hy hqy h1 h2
  clear hX hY
  go_region_with (first | (go_at_call_of 63 (Value.float FloatKind.f64 X); refine (i1 _ ?_ ?_).mono ?_; exact c1; exact hcW; rintro e w1 ⟨rfl, rfl⟩) | (go_at_call_of 63 (Value.float FloatKind.f64 Y); refine (i2 _ ?_ ?_).mono ?_; exact c1; exact hcW; rintro e w1 ⟨rfl, rfl⟩))
  all_goals go_wp2_with fail
  all_goals
    have r1 := heap_setCell_same W (B + 1 + 1) 0 _ 126 (.int .i64 qx) b3
    have r2 := heap_setCell_same _ (B + 1 + 1) 1 _ 126 (.int .i64 qy) r1
    refine bodyPost_ret (results_cell_row rfl _ _ (B + 1 + 1) 126 #[.int .i64 qx, .int .i64 qy] (0, 0) _ rfl r2 Yba.underlying126 rfl rfl) rfl ⟨rfl, ?_⟩
    have hBs := HB.out
    exact grown_draw (grown_new_cell (grown_new_cell hg _ _ _ (by omega)) _ _ _ (by omega)) 1
end Go.Proofs.Ybulkyyu.CF
