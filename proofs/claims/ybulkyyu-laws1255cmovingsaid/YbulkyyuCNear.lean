/- field.neighbours where the nodes stand still. -/
import Derived.Test.YbulkyyuCField
namespace Go.Proofs.Ybulkyyu.CLaw
open Go.RowKit
open Go.Proofs.Ybulkyyu.CF (fI Idx)
open Go.Proofs.Ybulkyyu.CMap (st_float Bk build_any search_any)

theorem owns_base {w : World} {b b' : Nat} {e : TypeId} {size : Nat} {v : Value} {n : Nat} {xs : List Value} (h : w.ownsRow b e size v n xs) (hb : b' ≤ b) : w.ownsRow b' e size v n xs := by
  refine ⟨h.1, ?_⟩
  rcases h.2 with h1 | ⟨g, cap, cur, a1, a2, a3⟩
  · exact .inl h1
  · exact .inr ⟨g, cap, cur, a1, by omega, a3⟩
theorem own_slice {w : World} {b : Nat} {e : TypeId} {size : Nat} {v : Value} {n : Nat} {xs : List Value} (h : w.ownsRow b e size v n xs) : ∃ a l c, v = .slice a l c := by
  rcases h.2 with ⟨rfl, _⟩ | ⟨g, cap, cur, rfl, _⟩ <;> exact ⟨_, _, _, rfl⟩
theorem info61 : (Yba.prog.info? 61).map (fun i => (i.zero, i.size, i.bytes)) = some (some (.slice none 0 0), 1, 24) := by kernel_rfl
theorem make94 (n : Nat) (hn : n ≤ 4096) (W : World) :
    (Instr.makeSlice 94 (.int .i64 n) (.int .i64 n)).run Yba.prog W = .ok (.slice (some ⟨W.heap.size, 0, none⟩) n n) (W.alloc (.cells (zer (.slice none 0 0) 1 n) 61)) := by
  obtain ⟨i, hi, hz0, hz1, hz2⟩ := info_parts info61
  have h := run_make (P := Yba.prog) W 94 61 i _ Yba.underlying94 hi hz0 .i64 .i64 (n : Int) (n : Int) (by omega) (by omega) (by rw [hz2]; omega) (by omega)
  rw [hz1, Int.toNat_natCast] at h
  exact h
theorem neqn90 (a : Option Addr) (n c : Nat) (w : World) : (binOp .neq 90 (.slice a n c) (.slice none 0 0)).run Yba.prog w = .ok (.bool (!a.isNone)) w := run_neq_slice_nil (P := Yba.prog) w 90 _ a n c Yba.underlying90
theorem neq90 (a : Option Addr) (n c n' c' : Nat) (w : World) : (binOp .eql 94 (.slice a n c) (.slice none n' c')).run Yba.prog w = .ok (.bool a.isNone) w := Lib.run_eql_slice_nil w _ _ a n c n' c' Yba.underlying94

/-- The links lie ready: node j's list in cell j of block lb. -/
def Links (w : World) (fb lb n : Nat) (L : Nat → List Nat) : Prop :=
  (∃ cur, w.heap[fb]? = some (.cells cur 96 (0, 0)) ∧ cur[2]? = some (.slice none 0 0) ∧ cur[5]? = some (.slice (some ⟨lb, 0, none⟩) n n)) ∧
  ∀ j, j < n → ∃ v, w.cell? ⟨lb, j, none⟩ = some v ∧ w.ownsRow 0 21 1 v (L j).length (row (L j))

set_option maxRecDepth 100000 in
theorem near_again (fb lb n : Nat) (L : Nat → List Nat) (i : Nat) (t : Int) (w : World) (hi : i < n) (hL : Links w fb lb n L) :
    Calls Yba.prog 21 #[.pointer (some ⟨fb, 0, none⟩), .int .i64 i, .int .i64 t] w fun e w' => ∃ v, e = .returned v ∧ w' = w ∧ w.ownsRow 0 21 1 v (L i).length (row (L i)) := by
  obtain ⟨⟨cur, hF, h2, h5⟩, hv⟩ := hL
  obtain ⟨v, hc, ho⟩ := hv i hi
  have c2 : w.cell? ⟨fb, 2, none⟩ = some (.slice none 0 0) := by rw [cell_of_row _ _ _ _ _ _ hF]; exact h2
  have c5 : w.cell? ⟨fb, 5, none⟩ = some (.slice (some ⟨lb, 0, none⟩) n n) := by rw [cell_of_row _ _ _ _ _ _ hF]; exact h5
  have q90 := neqn90
  have q94 := fun w a n c n' c' => neq90 a n c n' c' w
  have k1 : (i : Int) < (n : Int) := by omega
  go_enter Yba.func21, Yba.ntmps21
  go_wp2
  go_ret
  exact ⟨v, rfl, rfl, ho⟩

set_option maxRecDepth 100000 in
set_option maxHeartbeats 8000000 in
theorem near_first (fb pb n C : Nat) (x y qx qy : Nat → Nat) (r : Nat) (cur : Array Value) (i : Nat) (t : Int) (w : World) (hn : n ≤ 1024) (hi : i < n) (hr : r ≤ 500) (hfb : w.heap[fb]? = some (.cells cur 96 (0, 0))) (hcs : cur.size = 12)
    (h0 : cur[0]? = some (.slice (some ⟨pb, 0, none⟩) n n)) (h1 : cur[1]? = some (.float .f64 (fI r))) (h2 : cur[2]? = some (.slice none 0 0)) (h3 : cur[3]? = some (.float .f64 C)) (h4 : cur[4]? = some (.map none)) (h5 : cur[5]? = some (.slice none 0 0)) (hpf : pb ≠ fb)
    (hP : Pts w pb n n (fun j => (x j : Int)) (fun j => (y j : Int))) (hxy : ∀ j, j < n → x j ≤ 500 ∧ y j ≤ 500) (hI : ∀ j, j < n → Idx C (x j) (qx j) ∧ Idx C (y j) (qy j) ∧ qx j ≤ 1000 ∧ qy j ≤ 1000)
    (hcl : ∀ i, i < n → ∀ j, j < n → sel (fun j => (x j : Int)) (fun j => (y j : Int)) r i j = true → ((qx i : Int) - 1 ≤ qx j ∧ (qx j : Int) ≤ qx i + 1) ∧ (qy i : Int) - 1 ≤ qy j ∧ (qy j : Int) ≤ qy i + 1) :
    Calls Yba.prog 21 #[.pointer (some ⟨fb, 0, none⟩), .int .i64 i, .int .i64 t] w fun e w' => ∃ v lb, e = .returned v ∧ Links w' fb lb n (fun j => ms (fun j => (x j : Int)) (fun j => (y j : Int)) r j n) ∧ w'.ownsRow 0 21 1 v (ms (fun j => (x j : Int)) (fun j => (y j : Int)) r i n).length (row (ms (fun j => (x j : Int)) (fun j => (y j : Int)) r i n)) ∧ w.grownBy w' (some fb) := by
  have c0 : w.cell? ⟨fb, 0, none⟩ = some (.slice (some ⟨pb, 0, none⟩) n n) := by rw [cell_of_row _ _ _ _ _ _ hfb]; exact h0
  have c2 : w.cell? ⟨fb, 2, none⟩ = some (.slice none 0 0) := by rw [cell_of_row _ _ _ _ _ _ hfb]; exact h2
  have c5 : w.cell? ⟨fb, 5, none⟩ = some (.slice none 0 0) := by rw [cell_of_row _ _ _ _ _ _ hfb]; exact h5
  have q90 := neqn90
  have q94 := fun w a n c n' c' => neq90 a n c n' c' w
  have mk := make94 n (by omega)
  have hcell : ∀ w' : World, w.grownBy w' (some fb) → ∀ j, j < n → w'.cell? ⟨pb, j * 2, none⟩ = some (.float .f64 (fI (x j))) ∧ w'.cell? ⟨pb, j * 2 + 1, none⟩ = some (.float .f64 (fI (y j))) := fun w' hg j hj => by
    obtain ⟨cu, a1, _, a3⟩ := hP
    exact ⟨hg.cell ((cell_of_row _ _ _ _ _ _ a1).trans (a3 j hj).1) (by simpa using hpf), hg.cell ((cell_of_row _ _ _ _ _ _ a1).trans (a3 j hj).2) (by simpa using hpf)⟩
  have HB : Hid (∀ w' : World, w.grownBy w' (some fb) → w'.heap[fb]? = some (.cells cur 96 (0, 0)) → Calls Yba.prog 42 #[.pointer (some ⟨fb, 3, none⟩), .slice (some ⟨pb, 0, none⟩) n n] w' fun e w'' => ∃ N key val, e = .returned (.tuple #[]) ∧ w''.heap[fb]? = some (.cells (cur.setIfInBounds 4 (.map (some w'.heap.size))) 96 (0, 0)) ∧ Bk w'' w'.heap.size (w'.heap.size + 1) n (fun j => ((qx j : Int), (qy j : Int))) N key val ∧ w'.grownBy w'' (some fb)) := fun w' hg hF => build_any fb pb n n C x y qx qy cur w' hn hF hcs h3 h4 hpf (hcell w' hg) hI
  have HS : Hid (∀ (j mb base N : Nat) (key : Nat → Int × Int) (val : Nat → Value) (cur' : Array Value) (w' : World), j < n → w.grownBy w' (some fb) → w'.heap[fb]? = some (.cells cur' 96 (0, 0)) → cur'[3]? = some (.float .f64 C) → cur'[4]? = some (.map (some mb)) → Bk w' mb base n (fun j => ((qx j : Int), (qy j : Int))) N key val →
      Calls Yba.prog 43 #[.pointer (some ⟨fb, 3, none⟩), .slice (some ⟨pb, 0, none⟩) n n, .int .i64 j, .float .f64 (fI r), .slice none 0 0] w' fun e w'' => ∃ v, e = .returned v ∧ w''.ownsRow w'.heap.size 21 1 v (ms (fun j => (x j : Int)) (fun j => (y j : Int)) r j n).length (row (ms (fun j => (x j : Int)) (fun j => (y j : Int)) r j n)) ∧ w'.grownBy w'' none) := fun j mb base N key val cur' w' hj hg hF e3 e4 hBk =>
    search_any fb pb n n C mb base N x y qx qy key val cur' j r w' hn hj hr hF e3 e4 (fun k hk => ⟨hcell w' hg k hk, hxy k hk⟩) hI hBk (hcl j hj)
  clear hcell hcl hI hP hxy
  have hgd : w.grownBy w.drew (some fb) := CSort.grown_drewN (CSort.grown_refl _ _) 1
  have HCall := HB.out w.drew hgd hfb
  have HC : Hid (Calls Yba.prog 42 #[.pointer (some ⟨fb, 3, none⟩), .slice (some ⟨pb, 0, none⟩) n n] w.drew fun e w'' => ∃ N key val, e = .returned (.tuple #[]) ∧ w''.heap[fb]? = some (.cells (cur.setIfInBounds 4 (.map (some w.heap.size))) 96 (0, 0)) ∧ Bk w'' w.heap.size (w.heap.size + 1) n (fun j => ((qx j : Int), (qy j : Int))) N key val ∧ w.drew.grownBy w'' (some fb)) := HCall
  clear HCall HB
  have hfs : fb < w.heap.size := by
    rcases Nat.lt_or_ge fb w.heap.size with hlt | hge
    · exact hlt
    · rw [Array.getElem?_eq_none hge] at hfb; cases hfb
  go_enter Yba.func21, Yba.ntmps21
  go_wp2
  go_region_held3 (fun w' => w'.cell? ⟨fb, 0, none⟩ = some (.slice (some ⟨pb, 0, none⟩) n n)) (first | go_keep | exact hkeep0) ((go_at_call 42; refine HC.out.mono ?_; rintro e w1 ⟨N, key, val, rfl, hF1, hBk, hg1⟩; have hkeep0 : w1.cell? ⟨fb, 0, none⟩ = some (.slice (some ⟨pb, 0, none⟩) n n) := (cell_of_row _ _ _ _ _ _ hF1).trans ((Array.getElem?_setIfInBounds_ne (by omega)).trans h0)))
  have hg1' : w.grownBy w1 (some fb) := CSort.grown_trans hgd hg1
  obtain ⟨c1, hc1⟩ : ∃ c1, c1 = cur.setIfInBounds 4 (.map (some w.heap.size)) := ⟨_, rfl⟩
  have g0 : c1[0]? = some (.slice (some ⟨pb, 0, none⟩) n n) := by rw [hc1, Array.getElem?_setIfInBounds_ne (by omega)]; exact h0
  have g1 : c1[1]? = some (.float .f64 (fI r)) := by rw [hc1, Array.getElem?_setIfInBounds_ne (by omega)]; exact h1
  have g2 : c1[2]? = some (.slice none 0 0) := by rw [hc1, Array.getElem?_setIfInBounds_ne (by omega)]; exact h2
  have g3 : c1[3]? = some (.float .f64 C) := by rw [hc1, Array.getElem?_setIfInBounds_ne (by omega)]; exact h3
  have g4 : c1[4]? = some (.map (some w.heap.size)) := by rw [hc1]; exact Array.getElem?_setIfInBounds_self_of_lt (by omega)
  have g5 : c1[5]? = some (.slice none 0 0) := by rw [hc1, Array.getElem?_setIfInBounds_ne (by omega)]; exact h5
  have gs : c1.size = 12 := by rw [hc1]; simpa using hcs
  rw [← hc1] at hF1
  clear hc1 hkeep0 c0 c2 c5 h0 h1 h2 h3 h4 h5 hfb hg1 hgd HC
  have hfs1 : fb < w1.heap.size := Nat.lt_of_lt_of_le hfs hg1'.size
  have d0 : w1.cell? ⟨fb, 0, none⟩ = some (.slice (some ⟨pb, 0, none⟩) n n) := by rw [cell_of_row _ _ _ _ _ _ hF1]; exact g0
  have hF1a : ∀ o, (w1.alloc o).heap[fb]? = some (.cells c1 96 (0, 0)) := fun o => (heap_alloc_old w1 o hfs1).trans hF1
  have d5 : ∀ o, (w1.alloc o).cell? ⟨fb, 5, none⟩ = some (.slice none 0 0) := fun o => by rw [cell_of_row _ _ _ _ _ _ (hF1a o)]; exact g5
  have f5 : ∀ o, (w1.alloc o).frozen? ⟨fb, 5, none⟩ = false := fun o => frozen_of_row _ _ _ _ _ (hF1a o)
  obtain ⟨c2, hc2⟩ : ∃ c2, c2 = c1.setIfInBounds 5 (.slice (some ⟨w1.heap.size, 0, none⟩) n n) := ⟨_, rfl⟩
  have sW : (w1.setCell ⟨fb, 5, none⟩ (.slice (some ⟨w1.heap.size, 0, none⟩) n n)).heap.size = w1.heap.size := World.size_setCell ..
  have hWF : ((w1.setCell ⟨fb, 5, none⟩ (.slice (some ⟨w1.heap.size, 0, none⟩) n n)).alloc (.cells (zer (.slice none 0 0) 1 n) 61 (0, 0))).heap[fb]? = some (.cells c2 96 (0, 0)) := by
    rw [heap_alloc_old _ _ (by rw [sW]; exact hfs1), hc2]; exact heap_setCell_same w1 fb 5 c1 96 _ hF1
  have hWL : ((w1.setCell ⟨fb, 5, none⟩ (.slice (some ⟨w1.heap.size, 0, none⟩) n n)).alloc (.cells (zer (.slice none 0 0) 1 n) 61 (0, 0))).heap[w1.heap.size]? = some (.cells (zer (.slice none 0 0) 1 n) 61 (0, 0)) := by
    have := heap_alloc_new (w1.setCell ⟨fb, 5, none⟩ (.slice (some ⟨w1.heap.size, 0, none⟩) n n)) (.cells (zer (.slice none 0 0) 1 n) 61 (0, 0))
    rwa [sW] at this
  have hWg : w1.grownBy ((w1.setCell ⟨fb, 5, none⟩ (.slice (some ⟨w1.heap.size, 0, none⟩) n n)).alloc (.cells (zer (.slice none 0 0) 1 n) 61 (0, 0))) (some fb) := CSort.grown_trans (CSort.grown_setCell (CSort.grown_refl _ _) 5 _) (CSort.grown_alloc _ _ _)
  have hWs : ((w1.setCell ⟨fb, 5, none⟩ (.slice (some ⟨w1.heap.size, 0, none⟩) n n)).alloc (.cells (zer (.slice none 0 0) 1 n) 61 (0, 0))).heap.size = w1.heap.size + 1 := by rw [World.size_alloc, sW]
  have k0 : c2[0]? = some (.slice (some ⟨pb, 0, none⟩) n n) := by rw [hc2, Array.getElem?_setIfInBounds_ne (by omega)]; exact g0
  have k1 : c2[1]? = some (.float .f64 (fI r)) := by rw [hc2, Array.getElem?_setIfInBounds_ne (by omega)]; exact g1
  have k2 : c2[2]? = some (.slice none 0 0) := by rw [hc2, Array.getElem?_setIfInBounds_ne (by omega)]; exact g2
  have k3 : c2[3]? = some (.float .f64 C) := by rw [hc2, Array.getElem?_setIfInBounds_ne (by omega)]; exact g3
  have k4 : c2[4]? = some (.map (some w.heap.size)) := by rw [hc2, Array.getElem?_setIfInBounds_ne (by omega)]; exact g4
  have k5 : c2[5]? = some (.slice (some ⟨w1.heap.size, 0, none⟩) n n) := by rw [hc2]; exact Array.getElem?_setIfInBounds_self_of_lt (by omega)
  have d6 : ((w1.setCell ⟨fb, 5, none⟩ (.slice (some ⟨w1.heap.size, 0, none⟩) n n)).alloc (.cells (zer (.slice none 0 0) 1 n) 61 (0, 0))).cell? ⟨fb, 5, none⟩ = some (.slice (some ⟨w1.heap.size, 0, none⟩) n n) := by rw [cell_of_row _ _ _ _ _ _ hWF]; exact k5
  clear hc2 g0 g1 g2 g3 g4 g5 gs
  go_wp2
  obtain ⟨W, hW⟩ : ∃ W, W = ((w1.setCell ⟨fb, 5, none⟩ (.slice (some ⟨w1.heap.size, 0, none⟩) n n)).alloc (.cells (zer (.slice none 0 0) 1 n) 61 (0, 0))) := ⟨_, rfl⟩
  rw [← hW] at hWF hWL hWg hWs ⊢
  clear hW d6 sW d5 f5 hF1a d0 mk
  obtain ⟨lb, hlb⟩ : ∃ lb, lb = w1.heap.size := ⟨_, rfl⟩
  rw [← hlb] at hWL hWs k5 ⊢
  have HLB : Hid (lb = w1.heap.size) := hlb
  clear hlb
  go_loopw [14, 156] (fun _ s wr => ∃ (h : Nat) (cl : Array Value), s = .int .i64 h ∧ h ≤ n ∧ wr.heap[fb]? = some (.cells c2 96 (0, 0)) ∧ wr.heap[lb]? = some (.cells cl 61 (0, 0)) ∧ cl.size = n ∧ (∀ j, j < h → ∃ v, cl[j]? = some v ∧ wr.ownsRow (lb + 1) 21 1 v (ms (fun j => (x j : Int)) (fun j => (y j : Int)) r j n).length (row (ms (fun j => (x j : Int)) (fun j => (y j : Int)) r j n))) ∧ w1.grownBy wr (some fb) ∧ lb + 1 ≤ wr.heap.size) (fun _ s _ => n - (intOf s).toNat)
  case atStart => exact ⟨0, _, rfl, Nat.zero_le _, hWF, hWL, by rw [zer_size]; omega, fun j hj => by omega, hWg, by omega⟩
  case round =>
    obtain ⟨h, cl, rfl, hh, hF, hLb, hcl, hrows, hg, hsz⟩ := hrel
    clear hWF hWL hWg hWs
    have e0 : wr.cell? ⟨fb, 0, none⟩ = some (.slice (some ⟨pb, 0, none⟩) n n) := by rw [cell_of_row _ _ _ _ _ _ hF]; exact k0
    have e1 : wr.cell? ⟨fb, 1, none⟩ = some (.float .f64 (fI r)) := by rw [cell_of_row _ _ _ _ _ _ hF]; exact k1
    have e5 : wr.cell? ⟨fb, 5, none⟩ = some (.slice (some ⟨lb, 0, none⟩) n n) := by rw [cell_of_row _ _ _ _ _ _ hF]; exact k5
    have hfl : fb < lb := by have := HLB.out; omega
    by_cases hlt : h < n
    · have hgw : w.grownBy wr.drew (some fb) := CSort.grown_drewN (CSort.grown_trans hg1' hg) 1
      have hBd := (hBk.kept (CSort.grown_drewN hg 1) (fun g e => by cases e; exact ⟨by omega, .inl (by omega)⟩))
      have HCall := HS.out h w.heap.size (w.heap.size + 1) N key val c2 wr.drew hlt hgw hF k3 k4 hBd
      obtain ⟨RR, hRR⟩ : ∃ RR, RR = fI r := ⟨_, rfl⟩
      rw [← hRR] at HCall e1
      clear hRR
      obtain ⟨ML, hML⟩ : ∃ ML, ML = ms (fun j => (x j : Int)) (fun j => (y j : Int)) r h n := ⟨_, rfl⟩
      rw [← hML] at HCall
      have HML : Hid (ML = ms (fun j => (x j : Int)) (fun j => (y j : Int)) r h n) := hML
      clear hML hBd hgw
      have HC : Hid (Calls Yba.prog 43 #[.pointer (some ⟨fb, 3, none⟩), .slice (some ⟨pb, 0, none⟩) n n, .int .i64 h, .float .f64 RR, .slice none 0 0] wr.drew fun e w'' => ∃ v, e = .returned v ∧ w''.ownsRow wr.heap.size 21 1 v ML.length (row ML) ∧ wr.drew.grownBy w'' none) := HCall
      have HROWS : Hid (∀ j, j < h → ∃ v, cl[j]? = some v ∧ wr.ownsRow (lb + 1) 21 1 v (ms (fun j => (x j : Int)) (fun j => (y j : Int)) r j n).length (row (ms (fun j => (x j : Int)) (fun j => (y j : Int)) r j n))) := hrows
      clear HCall hrows
      have q1 : (h : Int) < (n : Int) := by omega
      go_wp2
      go_region_held3 (fun w' => w'.cell? ⟨fb, 0, none⟩ = some (.slice (some ⟨pb, 0, none⟩) n n) ∧ w'.cell? ⟨fb, 1, none⟩ = some (.float .f64 RR) ∧ w'.cell? ⟨fb, 5, none⟩ = some (.slice (some ⟨lb, 0, none⟩) n n)) (first | go_keep | exact hk3 | exact hk4 _) ((go_at_call 43; refine HC.out.mono ?_; rintro e w2 ⟨v, rfl, hown, hg2⟩; obtain ⟨va, vl, vc, rfl⟩ := own_slice hown; have hk3 : w2.cell? ⟨fb, 0, none⟩ = some (.slice (some ⟨pb, 0, none⟩) n n) ∧ w2.cell? ⟨fb, 1, none⟩ = some (.float .f64 RR) ∧ w2.cell? ⟨fb, 5, none⟩ = some (.slice (some ⟨lb, 0, none⟩) n n) := ⟨hg2.cell e0 (by simp), hg2.cell e1 (by simp), hg2.cell e5 (by simp)⟩; have hLb2 : w2.heap[lb]? = some (.cells cl 61 (0, 0)) := (hg2.block lb (by show lb < wr.heap.size; omega) (by simp)).trans hLb; have hcl2 : w2.cell? ⟨lb, h, none⟩ = some cl[h] := (cell_of_row _ _ _ _ _ _ hLb2).trans (Array.getElem?_eq_getElem (by omega)); have hfl2 : w2.frozen? ⟨lb, h, none⟩ = false := frozen_of_row _ _ _ _ _ hLb2; have hk4 : ∀ v, (w2.setCell ⟨lb, h, none⟩ v).cell? ⟨fb, 0, none⟩ = some (.slice (some ⟨pb, 0, none⟩) n n) ∧ (w2.setCell ⟨lb, h, none⟩ v).cell? ⟨fb, 1, none⟩ = some (.float .f64 RR) ∧ (w2.setCell ⟨lb, h, none⟩ v).cell? ⟨fb, 5, none⟩ = some (.slice (some ⟨lb, 0, none⟩) n n) := fun v => ⟨(CSort.grown_setCell (CSort.grown_refl w2 (some lb)) h v).cell hk3.1 (by simp; omega), (CSort.grown_setCell (CSort.grown_refl w2 (some lb)) h v).cell hk3.2.1 (by simp; omega), (CSort.grown_setCell (CSort.grown_refl w2 (some lb)) h v).cell hk3.2.2 (by simp; omega)⟩))
      have hnew : (w2.setCell ⟨lb, h, none⟩ (.slice va vl vc)).heap[lb]? = some (.cells (cl.setIfInBounds h (.slice va vl vc)) 61 (0, 0)) := heap_setCell_same w2 lb h cl 61 _ hLb2
      have hgs := CSort.grown_setCell (CSort.grown_refl w2 (some lb)) h (.slice va vl vc)
      have hFn : (w2.setCell ⟨lb, h, none⟩ (.slice va vl vc)).heap[fb]? = some (.cells c2 96 (0, 0)) := (heap_setCell_other w2 ⟨lb, h, none⟩ fb _ (by show fb ≠ lb; omega)).trans ((hg2.block fb (by show fb < wr.heap.size; omega) (by simp)).trans hF)
      have hG2 : w1.grownBy (w2.setCell ⟨lb, h, none⟩ (.slice va vl vc)) (some fb) := by
        have a1 : w1.grownBy w2 (some fb) := CSort.grown_trans (CSort.grown_drewN hg 1) ⟨hg2.os, hg2.tape, hg2.output, hg2.size, fun k hk _ => hg2.block k hk (by simp)⟩
        exact CSort.grown_new a1 hgs (by have := HLB.out; omega)
      have hR2 : ∀ j, j < h + 1 → ∃ v, (cl.setIfInBounds h (.slice va vl vc))[j]? = some v ∧ (w2.setCell ⟨lb, h, none⟩ (.slice va vl vc)).ownsRow (lb + 1) 21 1 v (ms (fun j => (x j : Int)) (fun j => (y j : Int)) r j n).length (row (ms (fun j => (x j : Int)) (fun j => (y j : Int)) r j n)) := fun j hj => by
        have keep : ∀ {v : Value} {l : List Nat}, w2.ownsRow (lb + 1) 21 1 v l.length (row l) → (w2.setCell ⟨lb, h, none⟩ (.slice va vl vc)).ownsRow (lb + 1) 21 1 v l.length (row l) := fun {v} {l} ho => ho.kept hgs (by
          cases e : v.ownBlock with
          | none => exact .inl rfl
          | some g => exact .inr (fun e2 => by have := (ho.lt g e).1; cases e2; omega))
        by_cases ej : j = h
        · subst ej
          refine ⟨_, Array.getElem?_setIfInBounds_self_of_lt (by omega), keep ?_⟩
          rw [← HML.out]
          exact owns_base hown hsz
        · obtain ⟨v, a1, a2⟩ := HROWS.out j (by omega)
          refine ⟨v, by rw [Array.getElem?_setIfInBounds_ne (by omega)]; exact a1, keep (a2.drew.kept hg2 (by cases e : v.ownBlock <;> simp))⟩
      go_wp2
      go_roundw
      case rel => exact ⟨h + 1, _, by go_num, by omega, hFn, hnew, by simpa using hcl, hR2, hG2, by show lb + 1 ≤ (World.setCell _ _ _).heap.size; rw [World.size_setCell]; exact Nat.le_trans hsz hg2.size⟩
      case measure => simp [intOf]; omega
    · obtain rfl : h = n := by omega
      obtain ⟨v, hv1, hv2⟩ := hrows i hi
      have q1 : (i : Int) < (h : Int) := by omega
      have e6 : wr.cell? ⟨lb, i, none⟩ = some v := by rw [cell_of_row _ _ _ _ _ _ hLb]; exact hv1
      have HLK : Hid (Links wr fb lb h (fun j => ms (fun j => (x j : Int)) (fun j => (y j : Int)) r j h)) := ⟨⟨c2, hF, k2, k5⟩, fun j hj => by
        obtain ⟨v, a1, a2⟩ := hrows j hj
        exact ⟨v, (cell_of_row _ _ _ _ _ _ hLb).trans a1, owns_base a2 (Nat.zero_le _)⟩⟩
      have HV2 : Hid (wr.ownsRow (lb + 1) 21 1 v (ms (fun j => (x j : Int)) (fun j => (y j : Int)) r i h).length (row (ms (fun j => (x j : Int)) (fun j => (y j : Int)) r i h))) := hv2
      clear hrows hv2 hv1
      go_wp2
      go_ret
      exact ⟨v, lb, rfl, HLK.out, owns_base HV2.out (Nat.zero_le _), CSort.grown_trans hg1' hg⟩
end Go.Proofs.Ybulkyyu.CLaw
