/- walk.next from a walk that has not set off, at speed 0. -/
import Derived.Test.YbulkyyuCCh
namespace Go.Proofs.Ybulkyyu.CMv
open Go.RowKit
open Go.Proofs.Ybulkyyu.CF (fI fD Mg fInf)

/-- What a walk reads of the set-up in block cb. -/
def Cfg (w : World) (cb : Nat) : Prop := ∃ cc, w.heap[cb]? = some (.cells cc 89 (0, 0)) ∧ cc[3]? = some (.float .f64 4607182418800017408) ∧ cc[4]? = some (.float .f64 0) ∧ cc[5]? = some (.float .f64 0) ∧ cc[6]? = some (.int .i64 0)
theorem Cfg.cells {w : World} {cb : Nat} (h : Cfg w cb) : w.cell? ⟨cb, 3, none⟩ = some (.float .f64 4607182418800017408) ∧ w.cell? ⟨cb, 4, none⟩ = some (.float .f64 0) ∧ w.cell? ⟨cb, 5, none⟩ = some (.float .f64 0) ∧ w.cell? ⟨cb, 6, none⟩ = some (.int .i64 0) := by
  obtain ⟨cc, a, b, c, d, e⟩ := h
  exact ⟨(cell_of_row _ _ _ _ _ _ a).trans b, (cell_of_row _ _ _ _ _ _ a).trans c, (cell_of_row _ _ _ _ _ _ a).trans d, (cell_of_row _ _ _ _ _ _ a).trans e⟩
theorem Cfg.at {w w' : World} {cb : Nat} (h : Cfg w cb) (he : w'.heap[cb]? = w.heap[cb]?) : Cfg w' cb := by
  obtain ⟨cc, a, r⟩ := h
  exact ⟨cc, he.trans a, r⟩
theorem Cfg.lt {w : World} {cb : Nat} (h : Cfg w cb) : cb < w.heap.size := by
  obtain ⟨cc, a, r⟩ := h
  exact heap_lt a

/-- The state of one walk and what has stayed since w0. -/
structure St (w0 w : World) (wb o cb g h : Nat) (c0 : Array Value) (V : Nat → Value) : Prop where
  wk : Wk w wb o c0 V
  ch : Ch (fun k => k = wb ∨ k = h) w0 w
  cfg : Cfg w cb
  rok : Rok w g h
theorem St.set {w0 w : World} {wb o cb g h : Nat} {c0 : Array Value} {V : Nat → Value} (s : St w0 w wb o cb g h c0 V) (n1 : cb ≠ wb) (n3 : g ≠ wb) (n4 : h ≠ wb) (k : Nat) (x : Value) (hk : k < 13) : St w0 (w.setCell ⟨wb, o + k, none⟩ x) wb o cb g h c0 (upd V k x) :=
  ⟨s.wk.set k x hk, s.ch.setCell wb _ _ (fun _ => .inl rfl), s.cfg.at (heap_setCell_other _ ⟨wb, o + k, none⟩ cb _ n1), s.rok.at (heap_setCell_other _ ⟨wb, o + k, none⟩ h _ n4) (heap_setCell_other _ ⟨wb, o + k, none⟩ g _ n3)⟩
theorem St.drew {w0 w : World} {wb o cb g h : Nat} {c0 : Array Value} {V : Nat → Value} (s : St w0 w wb o cb g h c0 V) : St w0 w.drew wb o cb g h c0 V :=
  ⟨s.wk.at rfl, s.ch.drew 1, s.cfg.at rfl, s.rok.at rfl rfl⟩
theorem St.drawn {w0 w w' : World} {wb o cb g h : Nat} {c0 : Array Value} {V : Nat → Value} (s : St w0 w wb o cb g h c0 V) (hg : w.grownBy w' (some h)) (hr : Rok w' g h) (n2 : cb ≠ h) (n4 : h ≠ wb) : St w0 w' wb o cb g h c0 V :=
  ⟨s.wk.at (hg.block wb s.wk.lt (by simp; omega)), s.ch.grown hg (fun k e _ => by cases e; exact .inr rfl), s.cfg.at (hg.block cb s.cfg.lt (by simp; omega)), hr⟩
theorem lt13 {P : Nat → Prop} (h0 : P 0) (h1 : P 1) (h2 : P 2) (h3 : P 3) (h4 : P 4) (h5 : P 5) (h6 : P 6) (h7 : P 7) (h8 : P 8) (h9 : P 9) (h10 : P 10) (h11 : P 11) (h12 : P 12) : ∀ k, k < 13 → P k := fun k hk => by
  match k, hk with
  | 0, _ => exact h0 | 1, _ => exact h1 | 2, _ => exact h2 | 3, _ => exact h3 | 4, _ => exact h4 | 5, _ => exact h5 | 6, _ => exact h6
  | 7, _ => exact h7 | 8, _ => exact h8 | 9, _ => exact h9 | 10, _ => exact h10 | 11, _ => exact h11 | 12, _ => exact h12
theorem Wk.congr {w : World} {wb o : Nat} {c0 : Array Value} {v v' : Nat → Value} (h : Wk w wb o c0 v) (he : ∀ k, k < 13 → v k = v' k) : Wk w wb o c0 v' := by
  obtain ⟨cur, a1, a2, a3, a4⟩ := h
  exact ⟨cur, a1, a2, fun k hk => by rw [← he k hk]; exact a3 k hk, a4⟩
theorem cell_set (w : World) (b o b' o' : Nat) (v : Value) (h : b ≠ b' ∨ o ≠ o') : (w.setCell ⟨b, o, none⟩ v).cell? ⟨b', o', none⟩ = w.cell? ⟨b', o', none⟩ :=
  World.cell?_setCell_other _ _ _ _ (fun e => by injection e; omega)
theorem one_mul_run (k : Nat) (hk : k < 2 ^ 53) (t : TypeId) (w : World) : (binOp .mul t (.float .f64 4607182418800017408) (.float .f64 (fD k (-53)))).run Yba.prog w = .ok (.float .f64 (fD k (-53))) w := run_float_arith w .mul t .f64 _ _ _ (CF.one_mul_dy k hk)
theorem zero_mul_run (k : Nat) (hk : k < 2 ^ 53) (t : TypeId) (w : World) : (binOp .mul t (.float .f64 0) (.float .f64 (fD k (-53)))).run Yba.prog w = .ok (.float .f64 0) w := run_float_arith w .mul t .f64 _ _ _ (CF.zero_mul_dy k hk)

set_option maxRecDepth 100000 in
set_option maxHeartbeats 8000000 in
theorem next_walk (wb o cb g h : Nat) (c0 : Array Value) (x y : Int) (w : World) (hW : Wk w wb o c0 (fresh cb g x y)) (hc : Cfg w cb) (hr : Rok w g h) (x2 : 2 ≤ x ∧ x ≤ 500) (y2 : 2 ≤ y ∧ y ≤ 500) (n1 : cb ≠ wb) (n2 : cb ≠ h) (n3 : g ≠ wb) (n4 : h ≠ wb) :
    Calls Yba.prog 62 #[.pointer (some ⟨wb, o, none⟩)] w fun e w' => e = .returned (.tuple #[]) ∧ (∃ kx ky ux uy dist, Wk w' wb o c0 (gone cb g x y kx ky ux uy dist) ∧ kx < 2 ^ 53 ∧ ky < 2 ^ 53 ∧ Mg dist false (-60) 30 ∧ (∃ s a b, Mg ux s a b) ∧ ∃ s a b, Mg uy s a b) ∧ Rok w' g h ∧ Ch (fun k => k = wb ∨ k = h) w w' := by
  have stf := CMap.st_float
  have p0 : w.cell? ⟨wb, o, none⟩ = some (.pointer (some ⟨cb, 0, none⟩)) := hW.cell 0 (by decide)
  have p2 : w.cell? ⟨wb, o + 2, none⟩ = some (.float .f64 (fI x)) := hW.cell 2 (by decide)
  have p3 : w.cell? ⟨wb, o + 2 + 1, none⟩ = some (.float .f64 (fI y)) := hW.cell 3 (by decide)
  have p4 : w.cell? ⟨wb, o + 4, none⟩ = some (.float .f64 (fI x)) := hW.cell 4 (by decide)
  have p5 : w.cell? ⟨wb, o + 4 + 1, none⟩ = some (.float .f64 (fI y)) := hW.cell 5 (by decide)
  have p10 : w.cell? ⟨wb, o + 10, none⟩ = some (.int .i64 0) := hW.cell 10 (by decide)
  have p12 : w.cell? ⟨wb, o + 12, none⟩ = some (.int .i64 0) := hW.cell 12 (by decide)
  have q2 := hW.frozen (o + 2)
  have q3 := hW.frozen (o + 2 + 1)
  have q10 := hW.frozen (o + 10)
  have st0 : St w w wb o cb g h c0 (fresh cb g x y) := ⟨hW, Ch.refl _ _, hc, hr⟩
  go_enter Yba.func62, Yba.ntmps62
  go_wp2
  go_region
  obtain ⟨W1, hW1⟩ : ∃ W1, W1 = (((w.setCell ⟨wb, o + 2, none⟩ (.float .f64 (fI x))).setCell ⟨wb, o + 2 + 1, none⟩ (.float .f64 (fI y))).setCell ⟨wb, o + 10, none⟩ (.int .i64 0)).drew := ⟨_, rfl⟩
  have st1 : St w W1 wb o cb g h c0 (upd (upd (upd (fresh cb g x y) 2 (.float .f64 (fI x))) 3 (.float .f64 (fI y))) 10 (.int .i64 0)) := by rw [hW1]; exact (((st0.set n1 n3 n4 2 _ (by decide)).set n1 n3 n4 3 _ (by decide)).set n1 n3 n4 10 _ (by decide)).drew
  rw [← hW1]
  have s1 : W1.cell? ⟨wb, o + 1, none⟩ = some (.pointer (some ⟨g, 0, none⟩)) := st1.wk.cell 1 (by decide)
  have s3 := st1.cfg.cells.1
  have kr := st1.rok
  have HD : Hid (∀ w : World, Rok w g h → Calls Yba.prog 68 #[.pointer (some ⟨g, 0, none⟩)] w fun e w' => ∃ k : Nat, e = .returned (.float .f64 (fD k (-53))) ∧ k < 2 ^ 53 ∧ Rok w' g h ∧ w.grownBy w' (some h)) := draw_any g h
  obtain ⟨V1, hV1⟩ : ∃ V1, V1 = (upd (upd (upd (fresh cb g x y) 2 (.float .f64 (fI x))) 3 (.float .f64 (fI y))) 10 (.int .i64 0)) := ⟨_, rfl⟩
  rw [← hV1] at st1
  have kW := st1.wk
  have HV1 : Hid (V1 = _) := hV1
  have HST : Hid (St w W1 wb o cb g h c0 V1) := st1
  clear hV1 hW1 p0 p2 p3 p4 p5 p10 p12 q2 q3 q10 hW hc hr st0 st1
  go_wp2
  go_region_held3 (fun w' => w'.cell? ⟨cb, 3, none⟩ = some (.float .f64 4607182418800017408) ∧ w'.cell? ⟨wb, o + 1, none⟩ = some (.pointer (some ⟨g, 0, none⟩))) (first | go_keep | assumption | exact hk4 _ _) ((go_at_call 68; refine (HD.out _ (by assumption)).mono ?_; rintro e w1 ⟨k, rfl, hk, hr1, hg1⟩; have hm1 := one_mul_run k hk; have hkp : w1.cell? ⟨cb, 3, none⟩ = some (.float .f64 4607182418800017408) ∧ w1.cell? ⟨wb, o + 1, none⟩ = some (.pointer (some ⟨g, 0, none⟩)) := ⟨hg1.cell (by simp [*]) (by simp; omega), hg1.cell (by simp [*]) (by simp; omega)⟩; have kk1 : Wk w1 wb o c0 V1 := Wk.at (by assumption) (hg1.block wb (Wk.lt (by assumption)) (by simp; omega)); have e4 : w1.cell? ⟨wb, o + 4, none⟩ = some (V1 4) := kk1.cell 4 (by decide); have e5 : w1.cell? ⟨wb, o + 4 + 1, none⟩ = some (V1 5) := kk1.cell 5 (by decide); have f4 := kk1.frozen (o + 4); have f5 := kk1.frozen (o + 4 + 1); have hk4 : ∀ u v, ((w1.setCell ⟨wb, o + 4, none⟩ u).setCell ⟨wb, o + 4 + 1, none⟩ v).cell? ⟨cb, 3, none⟩ = some (.float .f64 4607182418800017408) ∧ ((w1.setCell ⟨wb, o + 4, none⟩ u).setCell ⟨wb, o + 4 + 1, none⟩ v).cell? ⟨wb, o + 1, none⟩ = some (.pointer (some ⟨g, 0, none⟩)) := fun u v => ⟨by rw [cell_set _ _ _ _ _ _ (by omega), cell_set _ _ _ _ _ _ (by omega)]; exact hkp.1, by rw [cell_set _ _ _ _ _ _ (by omega), cell_set _ _ _ _ _ _ (by omega)]; exact hkp.2⟩))
  rename_i u1 kx hkx hru hgu hmx hkpu kku e4u e5u f4u f5u hk4u hheld
  obtain ⟨W2, hW2⟩ : ∃ W2, W2 = ((w1.setCell ⟨wb, o + 4, none⟩ (.float .f64 (fD kx (-53)))).setCell ⟨wb, o + 4 + 1, none⟩ (.float .f64 (fD k (-53)))) := ⟨_, rfl⟩
  have st2 : St w W2 wb o cb g h c0 (upd (upd V1 4 (.float .f64 (fD kx (-53)))) 5 (.float .f64 (fD k (-53)))) := by rw [hW2]; exact (((HST.out.drew.drawn hgu hru n2 n4).drawn hg1 hr1 n2 n4).set n1 n3 n4 4 _ (by decide)).set n1 n3 n4 5 _ (by decide)
  rw [← hW2]
  clear hW2 hk4 hk4u f4 f5 f4u f5u e4 e5 e4u e5u kk1 kku hkp hkpu hm1 hmx hg1 hgu hr1 hru hheld kW kr s1 s3 HST W1 w1 u1
  obtain ⟨V2, hV2⟩ : ∃ V2, V2 = (upd (upd V1 4 (.float .f64 (fD kx (-53)))) 5 (.float .f64 (fD k (-53)))) := ⟨_, rfl⟩
  rw [← hV2] at st2
  have HV2 : Hid (V2 = _) := hV2
  have v1 : V2 1 = .pointer (some ⟨g, 0, none⟩) := by rw [hV2, HV1.out]; rfl
  have s1 : W2.cell? ⟨wb, o + 1, none⟩ = some (.pointer (some ⟨g, 0, none⟩)) := by rw [← v1]; exact st2.wk.cell 1 (by decide)
  have s4 := st2.cfg.cells.2.1
  have s5 := st2.cfg.cells.2.2.1
  have kr := st2.rok
  have kW := st2.wk
  have z1 : ∀ t w, (binOp .sub t (.float .f64 0) (.float .f64 0)).run Yba.prog w = .ok (.float .f64 0) w := fun t w => run_float_arith w .sub t .f64 _ _ _ CF.zero_sub_zero
  have z2 : ∀ t w, (binOp .add t (.float .f64 0) (.float .f64 0)).run Yba.prog w = .ok (.float .f64 0) w := fun t w => run_float_arith w .add t .f64 _ _ _ CF.zero_add_zero
  have HST : Hid (St w W2 wb o cb g h c0 V2) := st2
  clear st2 hV2 v1
  go_wp2
  go_region_held3 (fun w' => w'.cell? ⟨cb, 4, none⟩ = some (.float .f64 0) ∧ w'.cell? ⟨cb, 5, none⟩ = some (.float .f64 0) ∧ w'.cell? ⟨wb, o + 1, none⟩ = some (.pointer (some ⟨g, 0, none⟩))) (first | go_keep | assumption | exact hk4 _) ((go_at_call 68; refine (HD.out _ (by assumption)).mono ?_; rintro e w1 ⟨ks, rfl, hks, hr1, hg1⟩; have hm1 := zero_mul_run ks hks; have hkp : w1.cell? ⟨cb, 4, none⟩ = some (.float .f64 0) ∧ w1.cell? ⟨cb, 5, none⟩ = some (.float .f64 0) ∧ w1.cell? ⟨wb, o + 1, none⟩ = some (.pointer (some ⟨g, 0, none⟩)) := ⟨hg1.cell (by simp [*]) (by simp; omega), hg1.cell (by simp [*]) (by simp; omega), hg1.cell (by simp [*]) (by simp; omega)⟩; have kk1 : Wk w1 wb o c0 V2 := Wk.at (by assumption) (hg1.block wb (Wk.lt (by assumption)) (by simp; omega)); have e4 : w1.cell? ⟨wb, o + 9, none⟩ = some (V2 9) := kk1.cell 9 (by decide); have f4 := kk1.frozen (o + 9); have hk4 : ∀ u, (w1.setCell ⟨wb, o + 9, none⟩ u).cell? ⟨cb, 4, none⟩ = some (.float .f64 0) ∧ (w1.setCell ⟨wb, o + 9, none⟩ u).cell? ⟨cb, 5, none⟩ = some (.float .f64 0) ∧ (w1.setCell ⟨wb, o + 9, none⟩ u).cell? ⟨wb, o + 1, none⟩ = some (.pointer (some ⟨g, 0, none⟩)) := fun u => ⟨by rw [cell_set _ _ _ _ _ _ (by omega)]; exact hkp.1, by rw [cell_set _ _ _ _ _ _ (by omega)]; exact hkp.2.1, by rw [cell_set _ _ _ _ _ _ (by omega)]; exact hkp.2.2⟩))
  obtain ⟨W3, hW3⟩ : ∃ W3, W3 = (w1.setCell ⟨wb, o + 9, none⟩ (.float .f64 0)) := ⟨_, rfl⟩
  have st3 : St w W3 wb o cb g h c0 (upd V2 9 (.float .f64 0)) := by rw [hW3]; exact (HST.out.drew.drawn hg1 hr1 n2 n4).set n1 n3 n4 9 _ (by decide)
  rw [← hW3]
  rename_i hheld
  clear hW3 hk4 f4 e4 kk1 hkp hm1 hg1 hr1 hheld kW kr s1 s4 s5 HST W2 w1 z1 z2
  have hky : k < 2 ^ 53 := hk
  obtain ⟨dx, dy, dxx, dyy, ss, dist, ux, uy, l1, l2, l3, l4, l5, l6, l7, l8, mdist, mux, muy⟩ := CF.leg kx k x y hkx hky x2 y2
  obtain ⟨V3, hV3⟩ : ∃ V3, V3 = (upd V2 9 (.float .f64 0)) := ⟨_, rfl⟩
  rw [← hV3] at st3
  have v2 : V3 2 = .float .f64 (fI x) := by rw [hV3, HV2.out, HV1.out]; rfl
  have v3 : V3 3 = .float .f64 (fI y) := by rw [hV3, HV2.out, HV1.out]; rfl
  have v4 : V3 4 = .float .f64 (fD kx (-53)) := by rw [hV3, HV2.out]; rfl
  have v5 : V3 5 = .float .f64 (fD k (-53)) := by rw [hV3, HV2.out]; rfl
  have v9 : V3 9 = .float .f64 0 := by rw [hV3]; rfl
  have v10 : V3 10 = .int .i64 0 := by rw [hV3, HV2.out, HV1.out]; rfl
  have HV3 : Hid (V3 = _) := hV3
  have p2 : W3.cell? ⟨wb, o + 2, none⟩ = some (.float .f64 (fI x)) := by rw [← v2]; exact st3.wk.cell 2 (by decide)
  have p3 : W3.cell? ⟨wb, o + 2 + 1, none⟩ = some (.float .f64 (fI y)) := by rw [← v3]; exact st3.wk.cell 3 (by decide)
  have p4 : W3.cell? ⟨wb, o + 4, none⟩ = some (.float .f64 (fD kx (-53))) := by rw [← v4]; exact st3.wk.cell 4 (by decide)
  have p5 : W3.cell? ⟨wb, o + 4 + 1, none⟩ = some (.float .f64 (fD k (-53))) := by rw [← v5]; exact st3.wk.cell 5 (by decide)
  have j1 : ∀ t w, (binOp .sub t (.float .f64 (fD kx (-53))) (.float .f64 (fI x))).run Yba.prog w = .ok (.float .f64 dx) w := fun t w => run_float_arith w .sub t .f64 _ _ _ l1
  have j2 : ∀ t w, (binOp .sub t (.float .f64 (fD k (-53))) (.float .f64 (fI y))).run Yba.prog w = .ok (.float .f64 dy) w := fun t w => run_float_arith w .sub t .f64 _ _ _ l2
  have j3 : ∀ t w, (binOp .mul t (.float .f64 dx) (.float .f64 dx)).run Yba.prog w = .ok (.float .f64 dxx) w := fun t w => run_float_arith w .mul t .f64 _ _ _ l3
  have j4 : ∀ t w, (binOp .mul t (.float .f64 dy) (.float .f64 dy)).run Yba.prog w = .ok (.float .f64 dyy) w := fun t w => run_float_arith w .mul t .f64 _ _ _ l4
  have j5 : ∀ t w, (binOp .add t (.float .f64 dxx) (.float .f64 dyy)).run Yba.prog w = .ok (.float .f64 ss) w := fun t w => run_float_arith w .add t .f64 _ _ _ l5
  have j7 : ∀ t w, (binOp .quo t (.float .f64 dx) (.float .f64 dist)).run Yba.prog w = .ok (.float .f64 ux) w := fun t w => run_float_arith w .quo t .f64 _ _ _ l7
  have j8 : ∀ t w, (binOp .quo t (.float .f64 dy) (.float .f64 dist)).run Yba.prog w = .ok (.float .f64 uy) w := fun t w => run_float_arith w .quo t .f64 _ _ _ l8
  have j9 : ∀ t w, (binOp .quo t (.float .f64 dist) (.float .f64 0)).run Yba.prog w = .ok (.float .f64 fInf) w := fun t w => run_float_arith w .quo t .f64 _ _ _ (CF.quo_zero mdist)
  have ho : FloatKind.f64.format.order dist 0 = some .gt := CF.order_pos mdist
  have HSQ : Hid (∀ w : World, Calls Yba.prog 69 #[.float .f64 ss] w fun e w' => e = .returned (.float .f64 dist) ∧ w' = w) := fun w => CRand.sqrt_any ss dist w l6
  have HLA : Hid (∀ w : World, Calls Yba.prog 70 #[.int .i64 0, .float .f64 fInf] w fun e w' => e = .returned (.int .i64 9223372036854775807) ∧ w' = w) := CRand.later_any
  have HFIN : Hid (Mg dist false (-60) 30 ∧ (∃ s a b, Mg ux s a b) ∧ ∃ s a b, Mg uy s a b) := ⟨mdist, mux, muy⟩
  have i6 : W3.cell? ⟨wb, o + 6, none⟩ = some (V3 6) := st3.wk.cell 6 (by decide)
  have i7 : W3.cell? ⟨wb, o + 7, none⟩ = some (V3 7) := st3.wk.cell 7 (by decide)
  have i8 : W3.cell? ⟨wb, o + 8, none⟩ = some (V3 8) := st3.wk.cell 8 (by decide)
  have f6 := st3.wk.frozen (o + 6)
  have f7 := st3.wk.frozen (o + 7)
  have f8 := st3.wk.frozen (o + 8)
  clear l1 l2 l3 l4 l5 l6 l7 l8 mdist mux muy hV3 v2 v3 v4 v5 x2 y2 hk hks
  go_wp2
  go_region
  go_wp2_with (go_at_call 69; refine (HSQ.out _).mono ?_; rintro e w1 ⟨rfl, rfl⟩)
  obtain ⟨W4, hW4⟩ : ∃ W4, W4 = (((W3.setCell ⟨wb, o + 8, none⟩ (.float .f64 dist)).setCell ⟨wb, o + 6, none⟩ (.float .f64 0)).setCell ⟨wb, o + 7, none⟩ (.float .f64 0)).drew := ⟨_, rfl⟩
  have st4 : St w W4 wb o cb g h c0 (upd (upd (upd V3 8 (.float .f64 dist)) 6 (.float .f64 0)) 7 (.float .f64 0)) := by rw [hW4]; exact (((st3.set n1 n3 n4 8 _ (by decide)).set n1 n3 n4 6 _ (by decide)).set n1 n3 n4 7 _ (by decide)).drew
  rw [← hW4]
  have k6 : W4.cell? ⟨wb, o + 6, none⟩ = some (.float .f64 0) := st4.wk.cell 6 (by decide)
  have k7 : W4.cell? ⟨wb, o + 7, none⟩ = some (.float .f64 0) := st4.wk.cell 7 (by decide)
  have k8 : W4.cell? ⟨wb, o + 8, none⟩ = some (.float .f64 dist) := st4.wk.cell 8 (by decide)
  have g6 := st4.wk.frozen (o + 6)
  have g7 := st4.wk.frozen (o + 7)
  clear hW4 i6 i7 i8 f6 f7 f8 p2 p3 p4 p5 j1 j2 j3 j4 j5 st3 HSQ ho
  go_region
  obtain ⟨W5, hW5⟩ : ∃ W5, W5 = ((W4.setCell ⟨wb, o + 6, none⟩ (.float .f64 ux)).setCell ⟨wb, o + 7, none⟩ (.float .f64 uy)).drew := ⟨_, rfl⟩
  have st5 : St w W5 wb o cb g h c0 (upd (upd (upd (upd (upd V3 8 (.float .f64 dist)) 6 (.float .f64 0)) 7 (.float .f64 0)) 6 (.float .f64 ux)) 7 (.float .f64 uy)) := by rw [hW5]; exact ((st4.set n1 n3 n4 6 _ (by decide)).set n1 n3 n4 7 _ (by decide)).drew
  rw [← hW5]
  have k10 : W5.cell? ⟨wb, o + 10, none⟩ = some (.int .i64 0) := by rw [← v10]; exact st5.wk.cell 10 (by decide)
  have k9 : W5.cell? ⟨wb, o + 9, none⟩ = some (.float .f64 0) := by rw [← v9]; exact st5.wk.cell 9 (by decide)
  have k8' : W5.cell? ⟨wb, o + 8, none⟩ = some (.float .f64 dist) := st5.wk.cell 8 (by decide)
  have k11 : W5.cell? ⟨wb, o + 11, none⟩ = some (V3 11) := st5.wk.cell 11 (by decide)
  have g11 := st5.wk.frozen (o + 11)
  have hk4 : ∀ u, (W5.setCell ⟨wb, o + 11, none⟩ u).drew.cell? ⟨wb, o + 10, none⟩ = some (.int .i64 0) ∧ (W5.setCell ⟨wb, o + 11, none⟩ u).drew.cell? ⟨wb, o + 9, none⟩ = some (.float .f64 0) ∧ (W5.setCell ⟨wb, o + 11, none⟩ u).drew.cell? ⟨wb, o + 8, none⟩ = some (.float .f64 dist) := fun u => ⟨(cell_set _ _ _ _ _ _ (by omega)).trans k10, (cell_set _ _ _ _ _ _ (by omega)).trans k9, (cell_set _ _ _ _ _ _ (by omega)).trans k8'⟩
  clear hW5 k6 k7 k8 g6 g7 j7 j8 st4 v9 v10
  go_wp2
  go_region_held3 (fun w' => w'.cell? ⟨wb, o + 10, none⟩ = some (.int .i64 0) ∧ w'.cell? ⟨wb, o + 9, none⟩ = some (.float .f64 0) ∧ w'.cell? ⟨wb, o + 8, none⟩ = some (.float .f64 dist)) (first | go_keep | assumption | exact hk4 _) ((go_at_call 70; refine (HLA.out _).mono ?_; rintro e w1 ⟨rfl, rfl⟩))
  obtain ⟨W6, hW6⟩ : ∃ W6, W6 = (W5.setCell ⟨wb, o + 11, none⟩ (.int .i64 9223372036854775807)).drew := ⟨_, rfl⟩
  have st6 := (st5.set n1 n3 n4 11 (.int .i64 9223372036854775807) (by decide)).drew
  rw [← hW6] at st6
  rw [← hW6]
  rename_i hheld
  have k12 : W6.cell? ⟨wb, o + 12, none⟩ = some (V3 12) := st6.wk.cell 12 (by decide)
  have k11' : W6.cell? ⟨wb, o + 11, none⟩ = some (.int .i64 9223372036854775807) := st6.wk.cell 11 (by decide)
  have c6 := st6.cfg.cells.2.2.2
  have g12 := st6.wk.frozen (o + 12)
  clear hheld hW6 k10 k9 k8' k11 g11 hk4 st5 j9 HLA HD
  go_wp2
  obtain ⟨W7, hW7⟩ : ∃ W7, W7 = (W6.setCell ⟨wb, o + 12, none⟩ (.int .i64 9223372036854775807)) := ⟨_, rfl⟩
  have st7 := st6.set n1 n3 n4 12 (.int .i64 9223372036854775807) (by decide)
  rw [← hW7] at st7
  rw [← hW7]
  have m12 : W7.cell? ⟨wb, o + 12, none⟩ = some (.int .i64 9223372036854775807) := st7.wk.cell 12 (by decide)
  have m11 : W7.cell? ⟨wb, o + 11, none⟩ = some (.int .i64 9223372036854775807) := st7.wk.cell 11 (by decide)
  have d6 := st7.cfg.cells.2.2.2
  have h12 := st7.wk.frozen (o + 12)
  clear hW7 k12 k11' c6 g12 st6
  go_region
  go_wp2
  go_region
  go_wp2
  go_end0
  have st8 := (st7.drew.set n1 n3 n4 12 (.int .i64 9223372036854775807) (by decide)).drew
  exact ⟨rfl, ⟨kx, k, ux, uy, dist, st8.wk.congr (by rw [HV3.out, HV2.out, HV1.out]; exact lt13 rfl rfl rfl rfl rfl rfl rfl rfl rfl rfl rfl rfl rfl), hkx, hky, HFIN.out⟩, st8.rok, st8.ch⟩
end Go.Proofs.Ybulkyyu.CMv
