/- The law's own set-up (zzs1255cconfig); gridCell; math.Inf. -/
import Derived.Test.YbulkyyuCSearch
namespace Go.Proofs.Ybulkyyu.CLaw
open Go.RowKit
open Go.Proofs.Ybulkyyu.CF (fI fInf)
open Go.Proofs.Ybulkyyu.CMap (st_float)

theorem info98 : (Yba.prog.info? 98).map (fun i => (i.zero, i.size, i.bytes)) = some (some (.agg #[.int .u32 0, .float .f64 0, .float .f64 0]), 3, 24) := by kernel_rfl

/-- math.Float64frombits. -/
theorem run_frombits (x : Nat) (w : World) : (callFunc 61 #[.int .u64 x]).run Yba.prog w = .ok (.value (.float .f64 x)) w := by
  rw [run_callFunc_extern Yba.func61 (by kernel_rfl) (by kernel_rfl) (by kernel_rfl) (e := Extern.MathFloatBits.float64frombits) (by kernel_rfl) _ w]
  rfl

set_option maxRecDepth 100000 in
theorem inf_any (w : World) : Calls Yba.prog 51 #[.int .i64 1] w fun e w' => e = .returned (.float .f64 fInf) ∧ w' = w := by
  have hd : ∀ w, (callFunc 61 #[.int .u64 9218868437227405312]).run Yba.prog w = .ok (.value (.float .f64 9218868437227405312)) w := fun w => run_frombits 9218868437227405312 w
  go_enter Yba.func51, Yba.ntmps51
  go_wp2
  go_ret
  exact ⟨rfl, rfl⟩

/-- The side of a cell: the reach, or +Inf at 0. -/
def cellBits (r : Nat) : Nat := if r = 0 then fInf else fI r
theorem fI_zero : fI 0 = 0 := by decide

set_option maxRecDepth 100000 in
theorem gridCell_any (r : Nat) (hr : r ≤ 500) (w : World) : Calls Yba.prog 35 #[.float .f64 (fI r)] w fun e w' => e = .returned (.float .f64 (cellBits r)) ∧ w' = w := by
  have ho := CF.order_fI r 0 (by omega) (by decide)
  rw [fI_zero] at ho
  have ho' : FloatKind.f64.format.order (fI r) 0 = some (compare (r : Int) 0) := ho
  by_cases h : r = 0
  · have hcmp : compare (r : Int) 0 = .eq := Int.compare_eq_eq.2 (by omega)
    rw [hcmp] at ho'
    have hcb : cellBits r = fInf := by simp [cellBits, h]
    rw [hcb]
    clear ho hcmp h hcb
    generalize fI r = F at *
    go_enter Yba.func35, Yba.ntmps35
    go_wp2_with (go_at_call 51; refine (inf_any _).mono ?_; rintro e w1 ⟨rfl, rfl⟩)
    go_ret
    exact ⟨rfl, rfl⟩
  · have hcmp : compare (r : Int) 0 = .gt := Int.compare_eq_gt.2 (by omega)
    rw [hcmp] at ho'
    have hcb : cellBits r = fI r := by simp [cellBits, h]
    rw [hcb]
    clear ho hcmp h hcb
    generalize fI r = F at *
    go_enter Yba.func35, Yba.ntmps35
    go_wp2_with fail
    go_ret
    exact ⟨rfl, rfl⟩

/-- Block g: n positions of three cells; the first k of them at (x j, y j). -/
def Pos (w : World) (g n k : Nat) (x y : Nat → Int) : Prop :=
  ∃ cur, w.heap[g]? = some (.cells cur 98 (0, 0)) ∧ cur.size = n * 3 ∧ ∀ j, j < k → cur[j * 3]? = some (.int .u32 0) ∧ cur[j * 3 + 1]? = some (.float .f64 (fI (x j))) ∧ cur[j * 3 + 2]? = some (.float .f64 (fI (y j)))

theorem Pos.next {w : World} {g n k : Nat} {x y : Nat → Int} (h : Pos w g n k x y) (hk : k < n) :
    Pos (((w.setCell ⟨g, k * 3, none⟩ (.int .u32 0)).setCell ⟨g, k * 3 + 1, none⟩ (.float .f64 (fI (x k)))).setCell ⟨g, k * 3 + 2, none⟩ (.float .f64 (fI (y k)))) g n (k + 1) x y := by
  obtain ⟨cur, hg, hs, hc⟩ := h
  have e1 := heap_setCell_same w g (k * 3) cur 98 (.int .u32 0) hg
  have e2 := heap_setCell_same _ g (k * 3 + 1) _ 98 (.float .f64 (fI (x k))) e1
  have e3 := heap_setCell_same _ g (k * 3 + 2) _ 98 (.float .f64 (fI (y k))) e2
  refine ⟨_, e3, by simpa using hs, fun j hj => ?_⟩
  by_cases e : j = k
  · subst e
    refine ⟨?_, ?_, ?_⟩
    · rw [Array.getElem?_setIfInBounds_ne (by omega), Array.getElem?_setIfInBounds_ne (by omega), Array.getElem?_setIfInBounds_self_of_lt (by omega)]
    · rw [Array.getElem?_setIfInBounds_ne (by omega), Array.getElem?_setIfInBounds_self_of_lt (by simp; omega)]
    · rw [Array.getElem?_setIfInBounds_self_of_lt (by simp; omega)]
  · have := hc j (by omega)
    refine ⟨?_, ?_, ?_⟩
    · rw [Array.getElem?_setIfInBounds_ne (by omega), Array.getElem?_setIfInBounds_ne (by omega), Array.getElem?_setIfInBounds_ne (by omega)]; exact this.1
    · rw [Array.getElem?_setIfInBounds_ne (by omega), Array.getElem?_setIfInBounds_ne (by omega), Array.getElem?_setIfInBounds_ne (by omega)]; exact this.2.1
    · rw [Array.getElem?_setIfInBounds_ne (by omega), Array.getElem?_setIfInBounds_ne (by omega), Array.getElem?_setIfInBounds_ne (by omega)]; exact this.2.2

def zer (z : Value) (size n : Nat) : Array Value := madeCells z.cells (n * size)
theorem zer_size (z : Value) (size n : Nat) : (zer z size n).size = n * size := by simp [zer, size_madeCells]
theorem make80 (n : Nat) (hn : n ≤ 4096) (W : World) :
    (Instr.makeSlice 80 (.int .i64 n) (.int .i64 n)).run Yba.prog W = .ok (.slice (some ⟨W.heap.size, 0, none⟩) n n) (W.alloc (.cells (zer (.agg #[.int .u32 0, .float .f64 0, .float .f64 0]) 3 n) 98)) := by
  obtain ⟨i, hi, hz0, hz1, hz2⟩ := info_parts info98
  have h := run_make (P := Yba.prog) W 80 98 i _ Yba.underlying80 hi hz0 .i64 .i64 (n : Int) (n : Int) (by omega) (by omega) (by rw [hz2]; omega) (by omega)
  rw [hz1, Int.toNat_natCast] at h
  exact h

theorem two_fI : (4611686018427387904 : Nat) = fI 2 := by decide
theorem add_two (z : Int) (h0 : 0 ≤ z) (h1 : z ≤ 255) (t : TypeId) (w : World) : (binOp .add t (.float .f64 4611686018427387904) (.float .f64 (floatOfInt .f64 z))).run Yba.prog w = .ok (.float .f64 (fI (2 + z))) w := by
  rw [two_fI]
  exact run_float_arith w .add t .f64 _ _ _ (CF.add_fI 2 z (by decide) (by omega) (by omega))

set_option maxRecDepth 100000 in
set_option maxHeartbeats 4000000 in
theorem config_static (a : Option Addr) (n c : Nat) (X Y : Nat → Int) (r : Nat) (w : World) (hn : n ≤ 1024) (hN : Nodes w.heap.size w a n X Y) :
    Calls Yba.prog 20 #[.slice a n c, .int .u8 r, .bool false] w fun e w' => ∃ cc, e = .returned (.pointer (some ⟨w.heap.size + 1, 0, none⟩)) ∧ w'.heap[w.heap.size + 1]? = some (.cells cc 89 (0, 0)) ∧ (cc[0]? = some (.slice (some ⟨w.heap.size, 0, none⟩) n n) ∧ cc[1]? = some (.float .f64 (fI r)) ∧ cc[2]? = some (.int .i64 0)) ∧
      Pos w' w.heap.size n n (fun j => 2 + X j) (fun j => 2 + Y j) ∧ w.grownBy w' none := by
  obtain ⟨b, off, rfl, hb, hcell⟩ := hN
  have mk := make80 n (by omega)
  have stf := st_float
  obtain ⟨W, hW⟩ : ∃ W, W = w.alloc (.cells (zer (.agg #[.int .u32 0, .float .f64 0, .float .f64 0]) 3 n) 98 (0, 0)) := ⟨_, rfl⟩
  have hP0 : Pos W w.heap.size n 0 (fun j => 2 + X j) (fun j => 2 + Y j) := ⟨_, by rw [hW]; exact heap_alloc_new w _, zer_size _ _ _, fun j hj => by omega⟩
  have hg0 : w.grownBy W none := by rw [hW]; exact CSort.grown_alloc w _ none
  have hs0 : W.heap.size = w.heap.size + 1 := by rw [hW]; exact World.size_alloc ..
  go_enter Yba.func20, Yba.ntmps20
  go_wp2
  rw [← hW]
  clear hW mk
  obtain ⟨G, hG⟩ : ∃ G, G = w.heap.size := ⟨_, rfl⟩
  rw [← hG] at hP0 hs0 ⊢
  have HG : Hid (G = w.heap.size) := hG
  have hbG : b < G := by omega
  clear hG
  go_loopw [8, 15] (fun _ s15 wr => ∃ k : Nat, s15 = .int .i64 k ∧ k ≤ n ∧ Pos wr G n k (fun j => 2 + X j) (fun j => 2 + Y j) ∧ w.grownBy wr none ∧ wr.heap.size = G + 1) (fun _ s15 _ => n - (intOf s15).toNat)
  case atStart => exact ⟨0, rfl, Nat.zero_le _, hP0, hg0, hs0⟩
  case round =>
    obtain ⟨k, rfl, hk, hP, hg, hsz⟩ := hrel
    by_cases hlt : k < n
    · obtain ⟨⟨c1, c2⟩, ⟨x1, x2⟩, y1, y2⟩ := hcell k hlt
      have d1 := hg.cell c1 (by simp)
      have d2 := hg.cell c2 (by simp)
      have hnx := hP.next hlt
      have e1 := fun t w => add_two (X k) x1 x2 t w
      have e2 := fun t w => add_two (Y k) y1 y2 t w
      obtain ⟨cur, hcg, hcs, _⟩ := hP
      have s0 : wr.cell? ⟨G, k * 3, none⟩ = some cur[k * 3] := by rw [cell_of_row _ _ _ _ _ _ hcg]; exact Array.getElem?_eq_getElem (by omega)
      have s1 : wr.cell? ⟨G, k * 3 + 1, none⟩ = some cur[k * 3 + 1] := by rw [cell_of_row _ _ _ _ _ _ hcg]; exact Array.getElem?_eq_getElem (by omega)
      have s2 : wr.cell? ⟨G, k * 3 + 2, none⟩ = some cur[k * 3 + 2] := by rw [cell_of_row _ _ _ _ _ _ hcg]; exact Array.getElem?_eq_getElem (by omega)
      have f0 : wr.frozen? ⟨G, k * 3, none⟩ = false := frozen_of_row _ _ _ _ _ hcg
      have f1 : wr.frozen? ⟨G, k * 3 + 1, none⟩ = false := frozen_of_row _ _ _ _ _ hcg
      have f2 : wr.frozen? ⟨G, k * 3 + 2, none⟩ = false := frozen_of_row _ _ _ _ _ hcg
      generalize cur[k * 3] = u0 at s0
      generalize cur[k * 3 + 1] = u1 at s1
      generalize cur[k * 3 + 2] = u2 at s2
      have k1 : (k : Int) < (n : Int) := by omega
      have HNX : Hid (Pos (((wr.setCell ⟨G, k * 3, none⟩ (.int .u32 0)).setCell ⟨G, k * 3 + 1, none⟩ (.float .f64 (fI (2 + X k)))).setCell ⟨G, k * 3 + 2, none⟩ (.float .f64 (fI (2 + Y k)))) G n (k + 1) (fun j => 2 + X j) (fun j => 2 + Y j)) := hnx
      clear c1 c2 hcell hnx hcg hcs x1 x2 y1 y2
      generalize fI (2 + X k) = FX at *
      generalize fI (2 + Y k) = FY at *
      generalize X k = xk at *
      generalize Y k = yk at *
      go_wp2
      go_region
      go_wp2
      go_roundw
      case rel =>
        have hG := HG.out
        exact ⟨k + 1, by go_num, by omega, HNX.out, CF.grown_draw (CF.grown_new_cell (CF.grown_new_cell (CF.grown_new_cell hg _ _ _ (by omega)) _ _ _ (by omega)) _ _ _ (by omega)) 1, by show (World.setCell _ _ _).heap.size = _; rw [World.size_setCell, World.size_setCell, World.size_setCell]; exact hsz⟩
      case measure => simp [intOf]; omega
    · obtain rfl : k = n := by omega
      have HSZ : Hid (wr.heap.size = G + 1) := hsz
      clear hsz
      go_wp2
      go_ret
      have hs := HSZ.out
      have hG := HG.out
      subst hG
      refine ⟨_, by rw [← hs]; rfl, by rw [← hs]; exact heap_alloc_new wr _, ⟨rfl, rfl, rfl⟩, ?_, CSort.grown_trans hg (CSort.grown_alloc wr _ none)⟩
      obtain ⟨cur, hcg, hr2⟩ := hP
      exact ⟨cur, (heap_alloc_old wr _ (by omega)).trans hcg, hr2⟩
end Go.Proofs.Ybulkyyu.CLaw
