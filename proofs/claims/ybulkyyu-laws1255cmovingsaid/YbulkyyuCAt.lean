/- walk.at at speed 0: the node stands where it started. -/
import Derived.Test.YbulkyyuCNext
import Derived.StillTailTactics
namespace Go.Proofs.Ybulkyyu.CMv
open Go.RowKit
open Go.Proofs.Ybulkyyu.CF (fI fD Mg fInf)

/-- One walk at time t: not set off, or (behind 0) under way at speed 0. -/
def Wst (t : Int) (w : World) (wb o cb g : Nat) (c0 : Array Value) (x y : Int) : Prop :=
  Wk w wb o c0 (fresh cb g x y) ∨ (0 < t ∧ ∃ kx ky ux uy dist, Wk w wb o c0 (gone cb g x y kx ky ux uy dist) ∧ kx < 2 ^ 53 ∧ ky < 2 ^ 53 ∧ Mg dist false (-60) 30 ∧ (∃ s a b, Mg ux s a b) ∧ ∃ s a b, Mg uy s a b)
theorem Wst.at {t : Int} {w w' : World} {wb o cb g : Nat} {c0 : Array Value} {x y : Int} (h : Wst t w wb o cb g c0 x y) (he : w'.heap[wb]? = w.heap[wb]?) : Wst t w' wb o cb g c0 x y := by
  rcases h with h | ⟨h0, kx, ky, ux, uy, dist, h, r⟩
  · exact .inl (h.at he)
  · exact .inr ⟨h0, kx, ky, ux, uy, dist, h.at he, r⟩
theorem Wst.lt {t : Int} {w : World} {wb o cb g : Nat} {c0 : Array Value} {x y : Int} (h : Wst t w wb o cb g c0 x y) : wb < w.heap.size := by
  rcases h with h | ⟨h0, kx, ky, ux, uy, dist, h, r⟩
  · exact h.lt
  · exact h.lt

def left (v : Option Value) : Nat := match v with | some (.int _ z) => if z = 0 then 1 else 0 | _ => 0

theorem run_max_gt (ts : Array TypeId) (t : TypeId) (x y : Nat) (w : World) (h : Ieee.double.order x y = some .gt) : (Builtin.max_ ts t #[.float .f64 x, .float .f64 y]).run Yba.prog w = .ok (.float .f64 x) w := by
  have h' : FloatKind.f64.format.order x y = some .gt := h
  simp [Builtin.max_, Builtin.max2, h']
theorem run_min_eq (ts : Array TypeId) (t : TypeId) (x : Nat) (w : World) (h : Ieee.double.order x x = some .eq) : (Builtin.min_ ts t #[.float .f64 x, .float .f64 x]).run Yba.prog w = .ok (.float .f64 x) w := by
  have h' : FloatKind.f64.format.order x x = some .eq := h
  simp [Builtin.min_, Builtin.min2, h']
theorem bil_mag : Mg 4741671816366391296 false 0 53 := by
  have : (4741671816366391296 : Nat) = fI 1000000000 := by decide
  rw [this]
  exact CF.fI_mag 1000000000 (by decide) (by decide)

set_option maxRecDepth 100000 in
set_option maxHeartbeats 8000000 in
theorem at_walk (wb o cb g h : Nat) (c0 : Array Value) (x y t : Int) (w : World) (h0 : 0 ≤ t) (ht : t ≤ 4294967295) (hW : Wst t w wb o cb g c0 x y) (hc : Cfg w cb) (hr : Rok w g h) (x2 : 2 ≤ x ∧ x ≤ 500) (y2 : 2 ≤ y ∧ y ≤ 500) (n1 : cb ≠ wb) (n2 : cb ≠ h) (n3 : g ≠ wb) (n4 : h ≠ wb) :
    Calls Yba.prog 55 #[.pointer (some ⟨wb, o, none⟩), .int .i64 t] w fun e w' => e = .returned (.agg #[.float .f64 (fI x), .float .f64 (fI y)]) ∧ Wst t w' wb o cb g c0 x y ∧ Rok w' g h ∧ Ch (fun k => k = wb ∨ k = h) w w' := by
  have stf := CMap.st_float
  have HN : Hid (∀ w' : World, Wk w' wb o c0 (fresh cb g x y) → Cfg w' cb → Rok w' g h → Calls Yba.prog 62 #[.pointer (some ⟨wb, o, none⟩)] w' fun e w'' => e = .returned (.tuple #[]) ∧ (∃ kx ky ux uy dist, Wk w'' wb o c0 (gone cb g x y kx ky ux uy dist) ∧ kx < 2 ^ 53 ∧ ky < 2 ^ 53 ∧ Mg dist false (-60) 30 ∧ (∃ s a b, Mg ux s a b) ∧ ∃ s a b, Mg uy s a b) ∧ Rok w'' g h ∧ Ch (fun k => k = wb ∨ k = h) w' w'') := fun w' a b c => next_walk wb o cb g h c0 x y w' a b c x2 y2 n1 n2 n3 n4
  have hwl := hW.lt
  have hhl : h < w.heap.size := by obtain ⟨⟨_, _, _, e⟩, _⟩ := hr; exact heap_lt e
  have hgl : g < w.heap.size := by obtain ⟨_, e⟩ := hr; exact heap_lt e
  have hcl := hc.lt
  obtain ⟨V, hV⟩ : ∃ V, V = w.alloc (.cells #[.float .f64 0, .float .f64 0] 100 (0, 0)) := ⟨_, rfl⟩
  have hVB : V.heap[w.heap.size]? = some (.cells #[.float .f64 0, .float .f64 0] 100 (0, 0)) := by rw [hV]; exact heap_alloc_new w _
  have hVo : ∀ q, q < w.heap.size → V.heap[q]? = w.heap[q]? := fun q hq => by rw [hV]; exact heap_alloc_old w _ hq
  have hVC : Ch (fun k => k = wb ∨ k = h) w V := by rw [hV]; exact (Ch.refl _ w).alloc _
  have hVW := hW.at (hVo wb hwl)
  have hVc := hc.at (hVo cb hcl)
  have hVr := hr.at (hVo h hhl) (hVo g hgl)
  go_enter Yba.func55, Yba.ntmps55
  go_wp2
  rw [← hV]
  obtain ⟨B, hB⟩ : ∃ B, B = w.heap.size := ⟨_, rfl⟩
  rw [← hB] at hVB hwl hhl hgl ⊢
  have HB : Hid (B = w.heap.size) := hB
  clear hV hVo hW hc hr hB hcl
  go_loopw [] (fun wr => wr.heap[B]? = some (.cells #[.float .f64 0, .float .f64 0] 100 (0, 0)) ∧ Wst t wr wb o cb g c0 x y ∧ Cfg wr cb ∧ Rok wr g h ∧ Ch (fun k => k = wb ∨ k = h) w wr) (fun wr => left (wr.cell? ⟨wb, o + 12, none⟩))
  case atStart => exact ⟨hVB, hVW, hVc, hVr, hVC⟩
  case round =>
    obtain ⟨hRB, hRW, hRc, hRr, hRC⟩ := hrel
    clear hVB hVW hVc hVr hVC
    rcases hRW with hk | ⟨ht0, kx, ky, ux, uy, dist, hk, hkx, hky, md, mux, muy⟩
    · have p12 : wr.cell? ⟨wb, o + 12, none⟩ = some (.int .i64 0) := hk.cell 12 (by decide)
      have p11 : wr.cell? ⟨wb, o + 11, none⟩ = some (.int .i64 0) := hk.cell 11 (by decide)
      have p4 : wr.cell? ⟨wb, o + 4, none⟩ = some (.float .f64 (fI x)) := hk.cell 4 (by decide)
      have p5 : wr.cell? ⟨wb, o + 4 + 1, none⟩ = some (.float .f64 (fI y)) := hk.cell 5 (by decide)
      by_cases h1 : 0 < t
      · go_wp2_with (go_at_call 62; refine (HN.out _ hk hRc hRr).mono ?_; rintro e w1 ⟨rfl, ⟨kx, ky, ux, uy, dist, hk1, hfin⟩, hr1, hC1⟩)
        have q12 : w1.cell? ⟨wb, o + 12, none⟩ = some (.int .i64 9223372036854775807) := hk1.cell 12 (by decide)
        have hB1 : w1.heap[B]? = some (.cells #[.float .f64 0, .float .f64 0] 100 (0, 0)) := (hC1.block B (heap_lt hRB) (by omega)).trans hRB
        go_roundw
        case rel => exact ⟨hB1, .inr ⟨h1, kx, ky, ux, uy, dist, hk1, hfin⟩, hRc.at (hC1.block cb hRc.lt (by omega)), hr1, hRC.trans hC1⟩
        case measure => rw [q12, p12]; decide
      · obtain rfl : t = 0 := by omega
        have b0 : wr.cell? ⟨B, 0, none⟩ = some (.float .f64 0) := by rw [cell_of_row _ _ _ _ _ _ hRB]; rfl
        have b1 : wr.cell? ⟨B, 1, none⟩ = some (.float .f64 0) := by rw [cell_of_row _ _ _ _ _ _ hRB]; rfl
        have f0 : wr.frozen? ⟨B, 0, none⟩ = false := frozen_of_row _ _ _ _ _ hRB
        have f1 : wr.frozen? ⟨B, 1, none⟩ = false := frozen_of_row _ _ _ _ _ hRB
        go_wp2_with fail
        have r1 := heap_setCell_same wr B 0 _ 100 (.float .f64 (fI x)) hRB
        have r2 := heap_setCell_same _ B 1 _ 100 (.float .f64 (fI y)) r1
        have e1 : ∀ q, q < B → ((wr.setCell ⟨B, 0, none⟩ (.float .f64 (fI x))).setCell ⟨B, 1, none⟩ (.float .f64 (fI y))).heap[q]? = wr.heap[q]? := fun q hq => by
          rw [heap_setCell_other _ ⟨B, 1, none⟩ q _ (by show q ≠ B; omega), heap_setCell_other _ ⟨B, 0, none⟩ q _ (by show q ≠ B; omega)]
        have hBs := HB.out
        refine bodyPost_ret (results_cell_row rfl _ _ B 100 #[.float .f64 (fI x), .float .f64 (fI y)] (0, 0) _ rfl r2 Yba.underlying100 rfl rfl) rfl ⟨rfl, (Wst.at (.inl hk) (e1 wb hwl)), hRr.at (e1 h hhl) (e1 g hgl), ?_⟩
        exact (hRC.setCell B _ _ (fun h => by omega)).setCell B _ _ (fun h => by omega)
    · have p12 : wr.cell? ⟨wb, o + 12, none⟩ = some (.int .i64 9223372036854775807) := hk.cell 12 (by decide)
      have p11 : wr.cell? ⟨wb, o + 11, none⟩ = some (.int .i64 9223372036854775807) := hk.cell 11 (by decide)
      have p2 : wr.cell? ⟨wb, o + 2, none⟩ = some (.float .f64 (fI x)) := hk.cell 2 (by decide)
      have p3 : wr.cell? ⟨wb, o + 2 + 1, none⟩ = some (.float .f64 (fI y)) := hk.cell 3 (by decide)
      have p4 : wr.cell? ⟨wb, o + 4, none⟩ = some (.float .f64 (fD kx (-53))) := hk.cell 4 (by decide)
      have p5 : wr.cell? ⟨wb, o + 4 + 1, none⟩ = some (.float .f64 (fD ky (-53))) := hk.cell 5 (by decide)
      have p6 : wr.cell? ⟨wb, o + 6, none⟩ = some (.float .f64 ux) := hk.cell 6 (by decide)
      have p7 : wr.cell? ⟨wb, o + 7, none⟩ = some (.float .f64 uy) := hk.cell 7 (by decide)
      have p8 : wr.cell? ⟨wb, o + 8, none⟩ = some (.float .f64 dist) := hk.cell 8 (by decide)
      have p9 : wr.cell? ⟨wb, o + 9, none⟩ = some (.float .f64 0) := hk.cell 9 (by decide)
      have p10 : wr.cell? ⟨wb, o + 10, none⟩ = some (.int .i64 0) := hk.cell 10 (by decide)
      have b0 : wr.cell? ⟨B, 0, none⟩ = some (.float .f64 0) := by rw [cell_of_row _ _ _ _ _ _ hRB]; rfl
      have b1 : wr.cell? ⟨B, 1, none⟩ = some (.float .f64 0) := by rw [cell_of_row _ _ _ _ _ _ hRB]; rfl
      have f0 : wr.frozen? ⟨B, 0, none⟩ = false := frozen_of_row _ _ _ _ _ hRB
      have f1 : wr.frozen? ⟨B, 1, none⟩ = false := frozen_of_row _ _ _ _ _ hRB
      obtain ⟨q, e1, mq⟩ := CF.quo_mag (CF.fI_mag t (by omega) (by omega)) bil_mag (by omega) (by omega)
      obtain ⟨s1, a1, a2, mx⟩ := mux
      obtain ⟨s2, a3, a4, my⟩ := muy
      have j1 : ∀ u w, (binOp .quo u (.float .f64 (floatOfInt .f64 t)) (.float .f64 4741671816366391296)).run Yba.prog w = .ok (.float .f64 q) w := fun u w => run_float_arith w .quo u .f64 _ _ _ e1
      have j2 : ∀ u w, (binOp .mul u (.float .f64 0) (.float .f64 q)).run Yba.prog w = .ok (.float .f64 0) w := fun u w => run_float_arith w .mul u .f64 _ _ _ (CF.zero_mul_mag mq)
      have j3 := fun ts u w => CF.run_min ts u dist 0 w (CF.order_pos md)
      have j4 : ∀ u w, (binOp .mul u (.float .f64 ux) (.float .f64 0)).run Yba.prog w = .ok (.float .f64 (Ieee.double.word s1 0)) w := fun u w => run_float_arith w .mul u .f64 _ _ _ (CF.mul_zero_mag mx)
      have j5 : ∀ u w, (binOp .mul u (.float .f64 uy) (.float .f64 0)).run Yba.prog w = .ok (.float .f64 (Ieee.double.word s2 0)) w := fun u w => run_float_arith w .mul u .f64 _ _ _ (CF.mul_zero_mag my)
      have j6 : ∀ u w, (binOp .add u (.float .f64 (fI x)) (.float .f64 (Ieee.double.word s1 0))).run Yba.prog w = .ok (.float .f64 (fI x)) w := fun u w => run_float_arith w .add u .f64 _ _ _ (CF.add_nil x s1 (by omega) (by omega))
      have j7 : ∀ u w, (binOp .add u (.float .f64 (fI y)) (.float .f64 (Ieee.double.word s2 0))).run Yba.prog w = .ok (.float .f64 (fI y)) w := fun u w => run_float_arith w .add u .f64 _ _ _ (CF.add_nil y s2 (by omega) (by omega))
      have ox := CF.order_step kx x hkx x2.1 x2.2
      have oy := CF.order_step ky y hky y2.1 y2.2
      have ex : Ieee.double.order (fI x) (fI x) = some .eq := by rw [CF.order_fI x x (by omega) (by omega), Int.compare_eq_eq.2 rfl]
      have ey : Ieee.double.order (fI y) (fI y) = some .eq := by rw [CF.order_fI y y (by omega) (by omega), Int.compare_eq_eq.2 rfl]
      have m1 := fun ts u w => CF.run_min ts u _ _ w ox.1
      have m2 := fun ts u w => run_max_gt ts u _ _ w ox.1
      have m3 := fun ts u w => run_min_eq ts u _ w ex
      have m4 := fun ts u w => CF.run_max ts u _ _ w ox.2
      have m5 := fun ts u w => CF.run_min ts u _ _ w oy.1
      have m6 := fun ts u w => run_max_gt ts u _ _ w oy.1
      have m7 := fun ts u w => run_min_eq ts u _ w ey
      have m8 := fun ts u w => CF.run_max ts u _ _ w oy.2
      have HW : Hid (Wst t wr wb o cb g c0 x y) := .inr ⟨ht0, kx, ky, ux, uy, dist, hk, hkx, hky, md, ⟨s1, a1, a2, mx⟩, ⟨s2, a3, a4, my⟩⟩
      have k1 : t ≤ 9223372036854775807 := by omega
      have k2 : t < 9223372036854775807 := by omega
      have kw : IntKind.i64.wrap t = t := by rw [IntKind.wrap_i64]; omega
      have r1 := heap_setCell_same wr B 0 _ 100 (.float .f64 (fI x)) hRB
      have r2 := heap_setCell_same _ B 1 _ 100 (.float .f64 (fI y)) r1
      have r3 : ∀ q, q < B → ((wr.setCell ⟨B, 0, none⟩ (.float .f64 (fI x))).setCell ⟨B, 1, none⟩ (.float .f64 (fI y))).heap[q]? = wr.heap[q]? := fun q hq => by
        rw [heap_setCell_other _ ⟨B, 1, none⟩ q _ (by show q ≠ B; omega), heap_setCell_other _ ⟨B, 0, none⟩ q _ (by show q ≠ B; omega)]
      have HR2 : Hid (((wr.setCell ⟨B, 0, none⟩ (.float .f64 (fI x))).setCell ⟨B, 1, none⟩ (.float .f64 (fI y))).heap[B]? = some (.cells #[.float .f64 (fI x), .float .f64 (fI y)] 100 (0, 0))) := r2
      have HR3 : Hid (∀ q, q < B → ((wr.setCell ⟨B, 0, none⟩ (.float .f64 (fI x))).setCell ⟨B, 1, none⟩ (.float .f64 (fI y))).heap[q]? = wr.heap[q]?) := r3
      clear hk md mx my mq e1 ox oy ex ey hkx hky HN r1 r2 r3
      generalize Ieee.double.word s1 0 = Z1 at *
      generalize Ieee.double.word s2 0 = Z2 at *
      generalize fD kx (-53) = KX at *
      generalize fD ky (-53) = KY at *
      go_wp2_with fail
      go_region
      go_wp2_with fail
      go_region
      go_wp2_with fail
      go_region
      go_wp2_with fail
      obtain ⟨W, hW⟩ : ∃ W, W = wr.drew.drew.drew := ⟨_, rfl⟩
      have s2' : W.cell? ⟨wb, o + 2, none⟩ = some (.float .f64 (fI x)) := by rw [hW]; exact p2
      have s3 : W.cell? ⟨wb, o + 2 + 1, none⟩ = some (.float .f64 (fI y)) := by rw [hW]; exact p3
      have s4 : W.cell? ⟨wb, o + 4, none⟩ = some (.float .f64 KX) := by rw [hW]; exact p4
      have s5 : W.cell? ⟨wb, o + 4 + 1, none⟩ = some (.float .f64 KY) := by rw [hW]; exact p5
      have t0 : W.cell? ⟨B, 0, none⟩ = some (.float .f64 0) := by rw [hW]; exact b0
      have t1 : W.cell? ⟨B, 1, none⟩ = some (.float .f64 0) := by rw [hW]; exact b1
      have u0 : W.frozen? ⟨B, 0, none⟩ = false := by rw [hW]; exact f0
      have u1 : W.frozen? ⟨B, 1, none⟩ = false := by rw [hW]; exact f1
      have HWW : Hid (W = wr.drew.drew.drew) := hW
      rw [← hW]
      clear hW p2 p3 p4 p5 p6 p7 p8 p9 p10 p11 p12 b0 b1 f0 f1 j1 j2 j3 j4 j5 j6 j7 stf
      have stf := CMap.st_float
      have hmix : Yba.prog.follows .mixedOrders = true := by kernel_rfl
      go_still_tail 51, hmix
      obtain ⟨W', hW'⟩ : ∃ W', W' = { W with drawn := W.drawn + 1 } := ⟨_, rfl⟩
      have t0' : W'.cell? ⟨B, 0, none⟩ = some (.float .f64 0) := by rw [hW']; exact t0
      have t1' : W'.cell? ⟨B, 1, none⟩ = some (.float .f64 0) := by rw [hW']; exact t1
      have u0' : W'.frozen? ⟨B, 0, none⟩ = false := by rw [hW']; exact u0
      have u1' : W'.frozen? ⟨B, 1, none⟩ = false := by rw [hW']; exact u1
      have HW2 : Hid (W' = wr.drewN 4) := by rw [hW', HWW.out]; rfl
      rw [← hW']
      clear hW' s2' s3 s4 s5 t0 t1 u0 u1 m1 m2 m3 m4 m5 m6 m7 m8
      go_wp2_with fail
      have hBs := HB.out
      have hWe := HW2.out
      subst hWe
      refine bodyPost_ret (results_cell_row rfl _ _ B 100 #[.float .f64 (fI x), .float .f64 (fI y)] (0, 0) _ rfl (show _ from HR2.out) Yba.underlying100 rfl rfl) rfl ⟨rfl, HW.out.at (HR3.out wb hwl), hRr.at (HR3.out h hhl) (HR3.out g hgl), ?_⟩
      exact ((hRC.drew 4).setCell B _ _ (fun h => by omega)).setCell B _ _ (fun h => by omega)
end Go.Proofs.Ybulkyyu.CMv
