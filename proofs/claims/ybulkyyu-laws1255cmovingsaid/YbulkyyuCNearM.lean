/- field.neighbours where the nodes move at speed 0. -/
import Derived.Test.YbulkyyuCGather
import Derived.Test.YbulkyyuCMovL
namespace Go.Proofs.Ybulkyyu.CLaw
open Go.RowKit
open Go.Proofs.Ybulkyyu.CF (fI Idx)
open Go.Proofs.Ybulkyyu.CMap (st_float)

/-- The field at time t, its near gathered; what it has found lies in blocks from B0 on. -/
structure Mov (t : Int) (r : Nat) (w : World) (fb wb we nb cb n lo B0 : Nat) (x y : Nat → Nat) (f : Nat → Value) (cl : Array Value) : Prop where
  fd : Fd w fb f
  f1 : f 1 = .float .f64 (fI r)
  f2 : f 2 = .slice (some ⟨wb, 0, none⟩) n n
  f6 : f 6 = .int .i64 3153600000000000000
  f8 : f 8 = .int .i64 t
  f9 : f 9 = .slice (some ⟨nb, 0, none⟩) n n
  f11 : ∃ z, f 11 = .int .i64 z
  near : w.heap[nb]? = some (.cells cl 61 (0, 0))
  rows : ∀ j, j < n → ∃ v, cl[j]? = some v ∧ w.ownsRow lo 21 1 v (ms (fun j => (x j : Int)) (fun j => (y j : Int)) (r + 1 : Nat) j n).length (row (ms (fun j => (x j : Int)) (fun j => (y j : Int)) (r + 1 : Nat) j n)) ∧ ∀ g, v.ownBlock = some g → g < B0
  walks : CMv.Walks t w wb we n n cb (fun j => (x j : Int)) (fun j => (y j : Int))
  cfg : CMv.Cfg w cb
  found : ∃ ln xs, w.ownsRow B0 21 1 (f 10) ln xs
  top : lo ≤ B0 ∧ B0 ≤ w.heap.size

/-- Where the blocks lie. -/
structure Lie (fb wb we nb cb lo : Nat) : Prop where
  c : cb < fb
  a : fb < wb
  b : wb < we
  d : we ≤ nb
  e : nb < lo

theorem owns_ch {S : Nat → Prop} {w w' : World} {b : Nat} {e : TypeId} {size : Nat} {v : Value} {n : Nat} {xs : List Value} (h : w.ownsRow b e size v n xs) (hc : CMv.Ch S w w') (hn : ∀ g, v.ownBlock = some g → ¬ S g) : w'.ownsRow b e size v n xs := by
  refine ⟨h.1, ?_⟩
  rcases h.2 with h1 | ⟨g, cap, cur, rfl, a2, a3, a4⟩
  · exact .inl h1
  · exact .inr ⟨g, cap, cur, rfl, a2, hc.at a3 (hn g rfl), a4⟩

/-- What a step keeps: it writes only blocks that none of the lists of the near lies in. -/
theorem Mov.keep {t : Int} {r : Nat} {w w' : World} {fb wb we nb cb n lo B0 : Nat} {x y : Nat → Nat} {f : Nat → Value} {cl : Array Value} (h : Mov t r w fb wb we nb cb n lo B0 x y f cl) (hw : CMv.Walks t w' wb we n n cb (fun j => (x j : Int)) (fun j => (y j : Int))) (hc : CMv.Ch (fun k => wb ≤ k ∧ k < we) w w') (L : Lie fb wb we nb cb lo) : Mov t r w' fb wb we nb cb n lo B0 x y f cl := by
  have hs := hc.size
  obtain ⟨l1, l2, l3, l4, l5⟩ := L
  refine ⟨h.fd.at (hc.block fb h.fd.lt (by omega)), h.f1, h.f2, h.f6, h.f8, h.f9, h.f11, hc.at h.near (by omega), fun j hj => ?_, hw, h.cfg.at (hc.block cb h.cfg.lt (by omega)), ?_, ⟨h.top.1, Nat.le_trans h.top.2 hs⟩⟩
  · obtain ⟨v, a1, a2, a3⟩ := h.rows j hj
    exact ⟨v, a1, owns_ch a2 hc (fun g hg => by have := (a2.lt g hg).1; omega), a3⟩
  · obtain ⟨ln, xs, a⟩ := h.found
    exact ⟨ln, xs, owns_ch a hc (fun g hg => by have := (a.lt g hg).1; have := h.top.1; omega)⟩

theorem Mov.setF {t : Int} {r : Nat} {w : World} {fb wb we nb cb n lo B0 : Nat} {x y : Nat → Nat} {f : Nat → Value} {cl : Array Value} (h : Mov t r w fb wb we nb cb n lo B0 x y f cl) (L : Lie fb wb we nb cb lo) (z : Int) : Mov t r (w.setCell ⟨fb, 11, none⟩ (.int .i64 z)) fb wb we nb cb n lo B0 x y (CMv.upd f 11 (.int .i64 z)) cl := by
  obtain ⟨l1, l2, l3, l4, l5⟩ := L
  have hc : CMv.Ch (fun k => k = fb) w (w.setCell ⟨fb, 11, none⟩ (.int .i64 z)) := (CMv.Ch.refl (fun k => k = fb) w).setCell fb _ _ (fun _ => rfl)
  have hs := hc.size
  have hl := h.walks.lt
  refine ⟨h.fd.set 11 _ (by decide), h.f1, h.f2, h.f6, h.f8, h.f9, ⟨z, rfl⟩, hc.at h.near (by omega), fun j hj => ?_, h.walks.at (fun q _ hq => hc.block q (by have := CMv.heap_lt h.near; omega) (by omega)), h.cfg.at (hc.block cb h.cfg.lt (by omega)), ?_, ⟨h.top.1, Nat.le_trans h.top.2 hs⟩⟩
  · obtain ⟨v, a1, a2, a3⟩ := h.rows j hj
    exact ⟨v, a1, owns_ch a2 hc (fun g hg => by have := (a2.lt g hg).1; omega), a3⟩
  · obtain ⟨ln, xs, a⟩ := h.found
    exact ⟨ln, xs, owns_ch a hc (fun g hg => by have := (a.lt g hg).1; have := h.top.1; omega)⟩
theorem Mov.setFound {t : Int} {r : Nat} {w : World} {fb wb we nb cb n lo B0 : Nat} {x y : Nat → Nat} {f : Nat → Value} {cl : Array Value} (h : Mov t r w fb wb we nb cb n lo B0 x y f cl) (L : Lie fb wb we nb cb lo) (v : Value) (ln : Nat) (xs : List Value) (hv : w.ownsRow B0 21 1 v ln xs) : Mov t r (w.setCell ⟨fb, 10, none⟩ v) fb wb we nb cb n lo B0 x y (CMv.upd f 10 v) cl ∧ (w.setCell ⟨fb, 10, none⟩ v).ownsRow B0 21 1 v ln xs := by
  obtain ⟨l1, l2, l3, l4, l5⟩ := L
  have hc : CMv.Ch (fun k => k = fb) w (w.setCell ⟨fb, 10, none⟩ v) := (CMv.Ch.refl (fun k => k = fb) w).setCell fb _ _ (fun _ => rfl)
  have hs := hc.size
  have hv' := owns_ch hv hc (fun g hg => by have := (hv.lt g hg).1; have := h.top.1; omega)
  refine ⟨⟨h.fd.set 10 _ (by decide), h.f1, h.f2, h.f6, h.f8, h.f9, h.f11, hc.at h.near (by omega), fun j hj => ?_, h.walks.at (fun q _ hq => hc.block q (by have := CMv.heap_lt h.near; omega) (by omega)), h.cfg.at (hc.block cb h.cfg.lt (by omega)), ⟨ln, xs, hv'⟩, ⟨h.top.1, Nat.le_trans h.top.2 hs⟩⟩, hv'⟩
  obtain ⟨v, a1, a2, a3⟩ := h.rows j hj
  exact ⟨v, a1, owns_ch a2 hc (fun g hg => by have := (a2.lt g hg).1; omega), a3⟩
/-- A step that writes only blocks from B0 on (the found's own, or new). -/
theorem Mov.above {t : Int} {r : Nat} {w w' : World} {fb wb we nb cb n lo B0 : Nat} {x y : Nat → Nat} {f : Nat → Value} {cl : Array Value} (h : Mov t r w fb wb we nb cb n lo B0 x y f cl) (hc : CMv.Ch (fun k => B0 ≤ k) w w') (L : Lie fb wb we nb cb lo) (hf : ∃ ln xs, w'.ownsRow B0 21 1 (f 10) ln xs) : Mov t r w' fb wb we nb cb n lo B0 x y f cl := by
  have hs := hc.size
  have ht := h.top
  obtain ⟨l1, l2, l3, l4, l5⟩ := L
  refine ⟨h.fd.at (hc.block fb h.fd.lt (by omega)), h.f1, h.f2, h.f6, h.f8, h.f9, h.f11, hc.at h.near (by omega), fun j hj => ?_, h.walks.at (fun q _ hq => hc.block q (by have := CMv.heap_lt h.near; omega) (by omega)), h.cfg.at (hc.block cb h.cfg.lt (by omega)), hf, ⟨h.top.1, Nat.le_trans h.top.2 hs⟩⟩
  obtain ⟨v, a1, a2, a3⟩ := h.rows j hj
  exact ⟨v, a1, owns_ch a2 hc (fun g hg => by have := a3 g hg; omega), a3⟩
theorem Mov.push {t : Int} {r : Nat} {w w' : World} {fb wb we nb cb n lo B0 : Nat} {x y : Nat → Nat} {f : Nat → Value} {cl : Array Value} (h : Mov t r w fb wb we nb cb n lo B0 x y f cl) (hc0 : CMv.Ch (fun k => B0 ≤ k) w w') (L : Lie fb wb we nb cb lo) (v : Value) (ln : Nat) (xs : List Value) (hv : w'.ownsRow B0 21 1 v ln xs) : Mov t r (w'.setCell ⟨fb, 10, none⟩ v) fb wb we nb cb n lo B0 x y (CMv.upd f 10 v) cl ∧ (w'.setCell ⟨fb, 10, none⟩ v).ownsRow B0 21 1 v ln xs := by
  obtain ⟨l1, l2, l3, l4, l5⟩ := L
  have ht := h.top
  have hc1 : CMv.Ch (fun k => k = fb) w' (w'.setCell ⟨fb, 10, none⟩ v) := (CMv.Ch.refl (fun k => k = fb) w').setCell fb _ _ (fun _ => rfl)
  have hc : CMv.Ch (fun k => k = fb ∨ B0 ≤ k) w (w'.setCell ⟨fb, 10, none⟩ v) := (hc0.mono (fun k hk => .inr hk)).trans (hc1.mono (fun k hk => .inl hk))
  have hs := hc.size
  have hv' := owns_ch hv hc1 (fun g hg => by have := (hv.lt g hg).1; omega)
  refine ⟨⟨(h.fd.at (hc0.block fb h.fd.lt (by omega))).set 10 _ (by decide), h.f1, h.f2, h.f6, h.f8, h.f9, h.f11, hc.at h.near (by omega), fun j hj => ?_, h.walks.at (fun q _ hq => hc.block q (by have := CMv.heap_lt h.near; omega) (by omega)), h.cfg.at (hc.block cb h.cfg.lt (by omega)), ⟨ln, xs, hv'⟩, ⟨h.top.1, Nat.le_trans h.top.2 hs⟩⟩, hv'⟩
  obtain ⟨v, a1, a2, a3⟩ := h.rows j hj
  exact ⟨v, a1, owns_ch a2 hc (fun g hg => by have := (a2.lt g hg).1; have := a3 g hg; omega), a3⟩
theorem own_cut {w : World} {b : Nat} {a : Option Addr} {m c : Nat} {ln : Nat} {xs : List Value} (h : w.ownsRow b 21 1 (.slice a m c) ln xs) : w.ownsRow b 21 1 (.slice a 0 c) 0 [] := by
  refine ⟨rfl, ?_⟩
  rcases h.2 with ⟨h1, _⟩ | ⟨g, cap, cur, h1, a2, a3, a4, a5, a6, a7⟩
  · cases h1; exact .inl ⟨rfl, rfl⟩
  · cases h1; exact .inr ⟨g, _, cur, rfl, a2, a3, by omega, a5, a6, by simp⟩
theorem ms_ne (X Y : Nat → Int) (r : Int) (i n k : Nat) (hk : k < (ms X Y r i n).length) : (ms X Y r i n).getD k 0 ≠ i := by
  have : (ms X Y r i n).getD k 0 ∈ ms X Y r i n := by
    rw [List.getD_eq_getElem?_getD, List.getElem?_eq_getElem hk]
    exact List.getElem_mem hk
  unfold ms at this
  rw [List.mem_filter] at this
  have h2 := this.2
  unfold sel at h2
  simp only [Bool.and_eq_true, decide_eq_true_eq] at h2
  exact h2.1
theorem sift_next (p : Nat → Bool) (l : List Nat) (k : Nat) (hk : k < l.length) : (l.take (k + 1)).filter p = (l.take k).filter p ++ (if p (l.getD k 0) then [l.getD k 0] else []) := by
  rw [List.take_add_one, List.filter_append, List.getD_eq_getElem?_getD, List.getElem?_eq_getElem hk]
  by_cases h : p l[k] = true <;> simp [h]
theorem ms_lt (X Y : Nat → Int) (r : Int) (i n k : Nat) (hk : k < (ms X Y r i n).length) : (ms X Y r i n).getD k 0 < n := by
  have : (ms X Y r i n).getD k 0 ∈ ms X Y r i n := by
    rw [List.getD_eq_getElem?_getD, List.getElem?_eq_getElem hk]
    exact List.getElem_mem hk
  unfold ms at this
  rw [List.mem_filter, List.mem_range] at this
  exact this.1
/-- What neighbours reads of a walk. -/
theorem walk_reads {t : Int} {w : World} {wb we n cb : Nat} {x y : Nat → Nat} (hW : CMv.Walks t w wb we n n cb (fun j => (x j : Int)) (fun j => (y j : Int))) (hxy : ∀ j, j < n → (2 ≤ x j ∧ x j ≤ 500) ∧ 2 ≤ y j ∧ y j ≤ 500) (j : Nat) (hj : j < n) :
    ∃ (D : Nat) (zD lv : Int), w.cell? ⟨wb, j * 13 + 2, none⟩ = some (.float .f64 (fI (x j))) ∧ w.cell? ⟨wb, j * 13 + 8, none⟩ = some (.float .f64 D) ∧ w.cell? ⟨wb, j * 13 + 12, none⟩ = some (.int .i64 lv) ∧ (∀ w, (convert 81 25 (.float .f64 (fI (x j)))).run Yba.prog w = .ok (.int .i64 (x j)) w) ∧ (∀ w, (convert 81 25 (.float .f64 D)).run Yba.prog w = .ok (.int .i64 zD) w) := by
  obtain ⟨cur, a1, a2, a3⟩ := hW
  obtain ⟨g, h, v, b1, b2, b3, b4, b5⟩ := a3 j hj
  have cell : ∀ k, k < 13 → w.cell? ⟨wb, j * 13 + k, none⟩ = some (v k) := fun k hk => by rw [cell_of_row _ _ _ _ _ _ a1]; exact b4 k hk
  have hcx : ∀ w, (convert 81 25 (.float .f64 (fI (x j)))).run Yba.prog w = .ok (.int .i64 (x j)) w := fun w => run_convert_float_int w 81 25 .f64 .i64 _ _ (by rw [Yba.underlying81]; rfl) Yba.underlying25 (CF.toIntVal_fI (x j) (by have := hxy j hj; omega))
  rcases b5 with rfl | ⟨_, kx, ky, ux, uy, dist, rfl, _, _, md, _⟩
  · exact ⟨0, 0, 0, cell 2 (by decide), cell 8 (by decide), cell 12 (by decide), hcx, fun w => run_convert_float_int w 81 25 .f64 .i64 _ _ (by rw [Yba.underlying81]; rfl) Yba.underlying25 (by decide)⟩
  · obtain ⟨z, hz⟩ := CF.toInt_mag md (by omega)
    exact ⟨dist, z, _, cell 2 (by decide), cell 8 (by decide), cell 12 (by decide), hcx, fun w => run_convert_float_int w 81 25 .f64 .i64 _ _ (by rw [Yba.underlying81]; rfl) Yba.underlying25 hz⟩

set_option maxRecDepth 100000 in
set_option maxHeartbeats 16000000 in
theorem near_moving (fb sb wb we nb cb n C : Nat) (x y qx qy : Nat → Nat) (r : Nat) (i : Nat) (t : Int) (w : World) (hn : n ≤ 1024) (hi : i < n) (hr : r ≤ 255) (h0 : 0 ≤ t) (ht : t ≤ 4294967295) (hcb : cb < fb) (hfb : fb < wb) (hwe : wb < we) (hnb : we ≤ nb)
    (hxy : ∀ j, j < n → (2 ≤ x j ∧ x j ≤ 500) ∧ 2 ≤ y j ∧ y j ≤ 500) (hI : ∀ j, j < n → Idx C (x j) (qx j) ∧ Idx C (y j) (qy j) ∧ qx j ≤ 1000 ∧ qy j ≤ 1000)
    (hcl : ∀ i, i < n → ∀ j, j < n → sel (fun j => (x j : Int)) (fun j => (y j : Int)) (r + 1 : Nat) i j = true → ((qx i : Int) - 1 ≤ qx j ∧ (qx j : Int) ≤ qx i + 1) ∧ (qy i : Int) - 1 ≤ qy j ∧ (qy j : Int) ≤ qy i + 1)
    (hph : (∃ f, Fd w fb f ∧ f 0 = .slice (some ⟨sb, 0, none⟩) n n ∧ f 1 = .float .f64 (fI r) ∧ f 2 = .slice (some ⟨wb, 0, none⟩) n n ∧ f 3 = .float .f64 C ∧ f 4 = .map none ∧ f 6 = .int .i64 3153600000000000000 ∧ f 7 = .float .f64 (fI ((r + 1 : Nat) : Int)) ∧ f 8 = .int .i64 (-1) ∧ f 9 = .slice (some ⟨nb, 0, none⟩) n n ∧ f 10 = .slice none 0 0 ∧ (∃ z, f 11 = .int .i64 z) ∧ CMv.Cfg w cb ∧ CMv.Walks t w wb we n n cb (fun j => (x j : Int)) (fun j => (y j : Int)) ∧ w.heap[nb]? = some (.cells (zer (.slice none 0 0) 1 n) 61 (0, 0))) ∨ ∃ lo B0 f cl, nb < lo ∧ Mov t r w fb wb we nb cb n lo B0 x y f cl) :
    Calls Yba.prog 21 #[.pointer (some ⟨fb, 0, none⟩), .int .i64 i, .int .i64 t] w fun e w' => ∃ lo B0 f cl, nb < lo ∧ e = .returned (f 10) ∧ Mov t r w' fb wb we nb cb n lo B0 x y f cl ∧ w'.ownsRow 0 21 1 (f 10) (ms (fun j => (x j : Int)) (fun j => (y j : Int)) r i n).length (row (ms (fun j => (x j : Int)) (fun j => (y j : Int)) r i n)) ∧ CMv.Ch (fun k => fb ≤ k) w w' := by
  have stf := st_float
  have q90 := neqn90
  have HPH : Hid ((∃ f, Fd w fb f ∧ f 0 = .slice (some ⟨sb, 0, none⟩) n n ∧ f 1 = .float .f64 (fI r) ∧ f 2 = .slice (some ⟨wb, 0, none⟩) n n ∧ f 3 = .float .f64 C ∧ f 4 = .map none ∧ f 6 = .int .i64 3153600000000000000 ∧ f 7 = .float .f64 (fI ((r + 1 : Nat) : Int)) ∧ f 8 = .int .i64 (-1) ∧ f 9 = .slice (some ⟨nb, 0, none⟩) n n ∧ f 10 = .slice none 0 0 ∧ (∃ z, f 11 = .int .i64 z) ∧ CMv.Cfg w cb ∧ CMv.Walks t w wb we n n cb (fun j => (x j : Int)) (fun j => (y j : Int)) ∧ w.heap[nb]? = some (.cells (zer (.slice none 0 0) 1 n) 61 (0, 0))) ∨ ∃ lo B0 f cl, nb < lo ∧ Mov t r w fb wb we nb cb n lo B0 x y f cl) := hph
  have c2 : w.cell? ⟨fb, 2, none⟩ = some (.slice (some ⟨wb, 0, none⟩) n n) := by
    rcases hph with ⟨f, a, _, _, e, _⟩ | ⟨_, _, f, _, _, m⟩
    · rw [← e]; exact a.cell 2 (by decide)
    · rw [← m.f2]; exact m.fd.cell 2 (by decide)
  have hpart : (w.cell? ⟨fb, 8, none⟩ = some (.int .i64 (-1)) ∧ ∃ f, Fd w fb f ∧ f 8 = .int .i64 (-1)) ∨ (w.cell? ⟨fb, 8, none⟩ = some (.int .i64 t) ∧ w.cell? ⟨fb, 6, none⟩ = some (.int .i64 3153600000000000000) ∧ ∃ lo B0 f cl, nb < lo ∧ Mov t r w fb wb we nb cb n lo B0 x y f cl) := by
    rcases hph with ⟨f, a, _, _, _, _, _, _, _, e, _⟩ | ⟨lo, B0, f, cl, hl, m⟩
    · exact .inl ⟨by rw [← e]; exact a.cell 8 (by decide), f, a, e⟩
    · exact .inr ⟨by rw [← m.f8]; exact m.fd.cell 8 (by decide), by rw [← m.f6]; exact m.fd.cell 6 (by decide), lo, B0, f, cl, hl, m⟩
  have HPA : Hid _ := hpart
  clear hpart hph
  have HGA : Hid (∀ (q : Nat) f, Fd w fb f → f 0 = .slice (some ⟨sb, 0, none⟩) n n → f 2 = .slice (some ⟨wb, 0, none⟩) n n → f 3 = .float .f64 C → f 4 = .map none → f 7 = .float .f64 (fI ((r + 1 : Nat) : Int)) → f 9 = .slice (some ⟨nb, 0, none⟩) n n → CMv.Cfg w cb → CMv.Walks t w wb we n n cb (fun j => (x j : Int)) (fun j => (y j : Int)) → w.heap[nb]? = some (.cells (zer (.slice none 0 0) 1 n) 61 (0, 0)) → Calls Yba.prog 39 #[.pointer (some ⟨fb, 0, none⟩), .int .i64 t] (w.drewN q) fun e w' => ∃ mb cl, e = .returned (.tuple #[]) ∧ Fd w' fb (CMv.upd (CMv.upd f 4 (.map (some mb))) 8 (.int .i64 t)) ∧ CMv.Walks t w' wb we n n cb (fun j => (x j : Int)) (fun j => (y j : Int)) ∧ w'.heap[nb]? = some (.cells cl 61 (0, 0)) ∧ (∀ j, j < n → ∃ v, cl[j]? = some v ∧ w'.ownsRow w.heap.size 21 1 v (ms (fun j => (x j : Int)) (fun j => (y j : Int)) (r + 1 : Nat) j n).length (row (ms (fun j => (x j : Int)) (fun j => (y j : Int)) (r + 1 : Nat) j n))) ∧ CMv.Ch (Gat fb wb we nb) (w.drewN q) w') := fun q f a1 a2 a3 a4 a5 a6 a7 a8 a9 a10 => gather_any fb sb wb we nb cb n C x y qx qy (r + 1) f t (w.drewN q) hn (by omega) h0 ht (a1.at rfl) a2 a3 a4 a5 a6 a7 (by omega) hfb hwe hnb (a8.at rfl) (a9.at (fun _ _ _ => rfl)) a10 hxy hI hcl
  clear hI hcl
  go_enter Yba.func21, Yba.ntmps21
  go_upto_region 2 with fail
  go_cut [37] (fun s37 wx => ∃ (b : Bool) (q : Nat), s37 = .bool b ∧ wx = w.drewN q ∧ (b = true → w.cell? ⟨fb, 8, none⟩ = some (.int .i64 (-1))) ∧ (b = false → w.cell? ⟨fb, 8, none⟩ = some (.int .i64 t)))
  case first =>
    rcases HPA.out with ⟨e8, _⟩ | ⟨e8, e6, _⟩
    · go_quiet (fail)
      go_wp2
      go_meet
      case rel => exact ⟨true, _, rfl, rfl, fun _ => e8, fun h => absurd h (by decide)⟩
    · have k1 : decide (t < 0) = false := decide_eq_false (by omega)
      have k2 : (0 : Int) ≤ t := h0
      go_quiet (fail)
      go_wp2
      go_meet
      case rel => exact ⟨false, _, rfl, rfl, fun h => absurd h (by decide), fun _ => e8⟩
  case rest =>
    obtain ⟨b, q, rfl, rfl, hb1, hb2⟩ := hcut
    have HB1 : Hid ((b = true → w.cell? ⟨fb, 8, none⟩ = some (.int .i64 (-1))) ∧ (b = false → w.cell? ⟨fb, 8, none⟩ = some (.int .i64 t))) := ⟨hb1, hb2⟩
    clear hb1 hb2
    go_upto_if 37 with fail
    go_cut [] (fun wx => ∃ lo B0 f cl, nb < lo ∧ Mov t r wx fb wb we nb cb n lo B0 x y f cl ∧ CMv.Ch (fun k => fb ≤ k) w wx)
    case first =>
      cases b with
      | true =>
        have HA : Hid (∃ f, Fd w fb f ∧ f 0 = .slice (some ⟨sb, 0, none⟩) n n ∧ f 1 = .float .f64 (fI r) ∧ f 2 = .slice (some ⟨wb, 0, none⟩) n n ∧ f 3 = .float .f64 C ∧ f 4 = .map none ∧ f 6 = .int .i64 3153600000000000000 ∧ f 7 = .float .f64 (fI ((r + 1 : Nat) : Int)) ∧ f 8 = .int .i64 (-1) ∧ f 9 = .slice (some ⟨nb, 0, none⟩) n n ∧ f 10 = .slice none 0 0 ∧ (∃ z, f 11 = .int .i64 z) ∧ CMv.Cfg w cb ∧ CMv.Walks t w wb we n n cb (fun j => (x j : Int)) (fun j => (y j : Int)) ∧ w.heap[nb]? = some (.cells (zer (.slice none 0 0) 1 n) 61 (0, 0))) := by
          rcases HPH.out with h | ⟨lo, B0, f, cl, hl, m⟩
          · exact h
          · have e1 := m.fd.cell 8 (by decide)
            rw [m.f8, HB1.out.1 rfl] at e1
            injection e1 with e2
            injection e2 with e3 e4
            omega
        obtain ⟨f, a1, a2, a3, a4, a5, a6, a7, a8, a9, a10, a11, a12, a13, a14, a15⟩ := HA.out
        go_wp2_with fail
        refine (HGA.out q f a1 a2 a4 a5 a6 a8 a10 a13 a14 a15).mono ?_
        rintro e w1 ⟨mb, cl, rfl, b1, b2, b3, b4, b5⟩
        go_wp2_with fail
        go_meet
        case rel =>
          have hs : w.heap.size ≤ w1.heap.size := b5.size
          refine ⟨w.heap.size, w1.heap.size, _, cl, CMv.heap_lt a15, ⟨b1, a3, a4, a7, rfl, a10, a12, b3, fun j hj => ?_, b2, a13.at (b5.block cb a13.lt (by unfold Gat; omega)), ⟨0, [], by rfl, .inl ⟨a11, rfl⟩⟩, hs, Nat.le_refl _⟩, ?_⟩
          · obtain ⟨v, c1, c2⟩ := b4 j hj
            exact ⟨v, c1, c2, fun g hg => (c2.lt g hg).2⟩
          · exact ((CMv.Ch.refl _ w).drew q).trans (b5.mono (fun k hk => by unfold Gat at hk; omega))
      | false =>
        have HB' : Hid (∃ lo B0 f cl, nb < lo ∧ Mov t r w fb wb we nb cb n lo B0 x y f cl) := by
          rcases HPH.out with ⟨f, a, _, _, _, _, _, _, _, e, _⟩ | h
          · have e1 := a.cell 8 (by decide)
            rw [e, HB1.out.2 rfl] at e1
            injection e1 with e2
            injection e2 with e3 e4
            omega
          · exact h
        go_wp2_with fail
        go_meet
        case rel =>
          obtain ⟨lo, B0, f, cl, hl, m⟩ := HB'.out
          exact ⟨lo, B0, f, cl, hl, m.keep (m.walks.at (fun _ _ _ => rfl)) ((CMv.Ch.refl _ w).drew q) ⟨hcb, hfb, hwe, hnb, hl⟩, (CMv.Ch.refl _ w).drew q⟩
    case rest =>
      obtain ⟨lo, B0, f, cl, hlo, hM, hC⟩ := hcut
      have L : Lie fb wb we nb cb lo := ⟨hcb, hfb, hwe, hnb, hlo⟩
      clear HGA HPH HPA HB1 c2
      obtain ⟨v, hv1, hv2, hv3⟩ := hM.rows i hi
      obtain ⟨Ls, hLs⟩ : ∃ Ls, Ls = ms (fun j => (x j : Int)) (fun j => (y j : Int)) (r + 1 : Nat) i n := ⟨_, rfl⟩
      rw [← hLs] at hv2
      have hlen : Ls.length ≤ n := by rw [hLs]; exact ms_len _ _ _ _ _
      obtain ⟨a, c, rfl, hcells⟩ := form21 hv2
      have e9 : wc.cell? ⟨fb, 9, none⟩ = some (.slice (some ⟨nb, 0, none⟩) n n) := by rw [← hM.f9]; exact hM.fd.cell 9 (by decide)
      have en : wc.cell? ⟨nb, i, none⟩ = some (.slice a Ls.length c) := by rw [cell_of_row _ _ _ _ _ _ hM.near]; exact hv1
      have k1 : (i : Int) < (n : Int) := by omega
      have HLS : Hid (Ls = ms (fun j => (x j : Int)) (fun j => (y j : Int)) (r + 1 : Nat) i n) := hLs
      have HCELL : Hid (∀ wq f', Mov t r wq fb wb we nb cb n lo B0 x y f' cl → ∀ k, k < Ls.length → ∃ g, a = some ⟨g, 0, none⟩ ∧ wq.cell? ⟨g, k, none⟩ = some (.int .i32 ((Ls.getD k 0 : Nat) : Int))) := fun wq f' hm k hk => by
        obtain ⟨v', e1, e2, e3⟩ := hm.rows i hi
        rw [hv1] at e1
        cases e1
        rw [← hLs] at e2
        obtain ⟨a', c', e4, e5⟩ := form21 e2
        cases e4
        obtain ⟨g, e6, e7⟩ := e5 (by omega)
        exact ⟨g, e6, e7 k hk⟩
      have HLT : Hid (∀ k, k < Ls.length → Ls.getD k 0 < n) := fun k hk => by rw [hLs] at hk ⊢; exact ms_lt _ _ _ _ _ _ hk
      have hmix : Yba.prog.follows .mixedOrders = true := by kernel_rfl
      clear hLs hv2 hv3 hcells hv1
      go_wp2
      go_loopw [9, 10, 50] (fun _ _ s50 wr => ∃ (k : Nat) (f' : Nat → Value), s50 = .int .i64 k ∧ k ≤ Ls.length ∧ Mov t r wr fb wb we nb cb n lo B0 x y f' cl ∧ CMv.Ch (fun k => fb ≤ k) w wr) (fun _ _ s50 _ => Ls.length - (intOf s50).toNat)
      case atStart => exact ⟨0, f, rfl, Nat.zero_le _, hM, hC⟩
      case round =>
        obtain ⟨k, f', rfl, hk, hMr, hCr⟩ := hrel
        clear hM hC e9 en
        by_cases hlt : k < Ls.length
        · obtain ⟨g, rfl, hgc⟩ := HCELL.out wr f' hMr k hlt
          have hjn := HLT.out k hlt
          obtain ⟨j, hj⟩ : ∃ j, j = Ls.getD k 0 := ⟨_, rfl⟩
          rw [← hj] at hgc hjn
          clear hj
          obtain ⟨D, zD, lv, w2, w8, w12, cv1, cv2⟩ := walk_reads hMr.walks hxy j hjn
          obtain ⟨z11, hz11⟩ := hMr.f11
          have e2 : wr.cell? ⟨fb, 2, none⟩ = some (.slice (some ⟨wb, 0, none⟩) n n) := by rw [← hMr.f2]; exact hMr.fd.cell 2 (by decide)
          have e11 : wr.cell? ⟨fb, 11, none⟩ = some (.int .i64 z11) := by rw [← hz11]; exact hMr.fd.cell 11 (by decide)
          have y11 := hMr.fd.frozen 11
          have q1 : (k : Int) < (Ls.length : Int) := by omega
          have q2 : (j : Int) < (n : Int) := by omega
          clear hz11
          generalize fI (x j : Int) = FX at *
          generalize (x j : Int) = XJ at *
          go_wp2
          go_still_tail 24, hmix
          go_wp2
          go_roundw
          case rel => exact ⟨k + 1, _, by go_num, by omega, Mov.keep (hMr.setF L _) (CMv.Walks.at (hMr.setF L _).walks (fun _ _ _ => rfl)) (CMv.Ch.drew (CMv.Ch.refl _ _) 1) L, (hCr.setCell fb _ _ (fun _ => Nat.le_refl _)).drew 1⟩
          case measure => simp [intOf]; omega
        · obtain rfl : k = Ls.length := by omega
          obtain ⟨cf, b1, b2, b3⟩ := hMr.fd
          have htop := hMr.top
          have hwesz : we ≤ wr.heap.size := by omega
          have HC : Hid (Calls Yba.prog 40 #[.pointer (some ⟨fb, 0, none⟩), .int .i64 i, .int .i64 t] wr fun e w'' => e = .returned (.agg #[.float .f64 (fI (x i)), .float .f64 (fI (y i))]) ∧ CMv.Walks t w'' wb we n n cb (fun j => (x j : Int)) (fun j => (y j : Int)) ∧ CMv.Ch (fun k => wb ≤ k ∧ k < we) wr w'') := CMv.at_field fb wb we n cb i cf (fun j => (x j : Int)) (fun j => (y j : Int)) t wr h0 ht hi hMr.cfg (by omega) hwesz hMr.walks (fun j hj => by have := hxy j hj; omega) b1 (by rw [b3 2 (by decide), hMr.f2]) hfb
          clear b1 b2 b3
          go_wp2_with fail
          refine HC.out.mono ?_
          rintro e w1 ⟨rfl, hW1, hC1⟩
          have hM1 := hMr.keep hW1 hC1 L
          have hCr1 : CMv.Ch (fun k => fb ≤ k) w w1 := hCr.trans (hC1.mono (fun k hk => by omega))
          obtain ⟨lnf, xsf, hfo⟩ := hM1.found
          obtain ⟨aF, nF, cF, hfe⟩ := own_slice hfo
          have hfbl : fb < w1.heap.size := hM1.fd.lt
          have e10 : ∀ o, (w1.alloc o).cell? ⟨fb, 10, none⟩ = some (.slice aF nF cF) := fun o => by rw [← hfe]; exact (hM1.fd.at (heap_alloc_old w1 o hfbl)).cell 10 (by decide)
          have y10 : ∀ o, (w1.alloc o).frozen? ⟨fb, 10, none⟩ = false := fun o => (hM1.fd.at (heap_alloc_old w1 o hfbl)).frozen 10
          have HFE : Hid (f' 10 = .slice aF nF cF) := hfe
          clear hMr hCr hC1 HC hfe
          go_wp2
          have hcut0 : w1.ownsRow B0 21 1 (.slice aF 0 cF) 0 [] := by rw [HFE.out] at hfo; exact own_cut hfo
          obtain ⟨hM2, ho2⟩ := hM1.setFound L _ _ _ hcut0
          have hCh2 : CMv.Ch (fun k => fb ≤ k) w (w1.setCell ⟨fb, 10, none⟩ (.slice aF 0 cF)) := hCr1.setCell fb _ _ (fun _ => Nat.le_refl _)
          have hsz2 : (w1.setCell ⟨fb, 10, none⟩ (.slice aF 0 cF)).heap.size = w1.heap.size := World.size_setCell ..
          obtain ⟨U, hU⟩ : ∃ U, U = (w1.setCell ⟨fb, 10, none⟩ (.slice aF 0 cF)).alloc (.cells #[.float .f64 (fI (x i)), .float .f64 (fI (y i))] 100 (0, 0)) := ⟨_, rfl⟩
          have hUC : CMv.Ch (fun k => B0 ≤ k) (w1.setCell ⟨fb, 10, none⟩ (.slice aF 0 cF)) U := by rw [hU]; exact (CMv.Ch.refl _ _).alloc _
          have hUP : U.heap[w1.heap.size]? = some (.cells #[.float .f64 (fI (x i)), .float .f64 (fI (y i))] 100 (0, 0)) := by
            have := heap_alloc_new (w1.setCell ⟨fb, 10, none⟩ (.slice aF 0 cF)) (.cells #[.float .f64 (fI (x i)), .float .f64 (fI (y i))] 100 (0, 0))
            rw [hsz2, ← hU] at this
            exact this
          have hUo : U.ownsRow B0 21 1 (.slice aF 0 cF) 0 [] := by rw [hU]; exact ho2.alloc _
          have hUM := hM2.above hUC L ⟨0, [], hUo⟩
          have hUW : CMv.Ch (fun k => fb ≤ k) w U := by rw [hU]; exact hCh2.alloc _
          have hpB : B0 ≤ w1.heap.size := hM1.top.2
          rw [← hU]
          obtain ⟨p, hp⟩ : ∃ p, p = w1.heap.size := ⟨_, rfl⟩
          rw [← hp] at hUP hpB ⊢
          clear hU hsz2 hCh2 hUC hM2 ho2 hcut0 hM1 hCr1 e10 y10 hW1 hp hfbl
          obtain ⟨FI, hFI⟩ : ∃ FI, FI = fI (x i) := ⟨_, rfl⟩
          obtain ⟨GI, hGI⟩ : ∃ GI, GI = fI (y i) := ⟨_, rfl⟩
          rw [← hFI, ← hGI] at hUP
          have HFI : Hid (FI = fI (x i) ∧ GI = fI (y i)) := ⟨hFI, hGI⟩
          clear hFI hGI
          obtain ⟨i0, hi0, hz0, hz1, hz2⟩ := info_parts info21
          have HMS : Hid (Ls.filter (sel (fun j => (x j : Int)) (fun j => (y j : Int)) r i) = ms (fun j => (x j : Int)) (fun j => (y j : Int)) r i n) := by rw [HLS.out]; exact ms_sift _ _ r i n
          go_loopw [13, 99] (fun _ s99 wr => ∃ (k : Nat) (f' : Nat → Value), s99 = .int .i64 k ∧ k ≤ Ls.length ∧ Mov t r wr fb wb we nb cb n lo B0 x y f' cl ∧ wr.ownsRow B0 21 1 (f' 10) ((Ls.take k).filter (sel (fun j => (x j : Int)) (fun j => (y j : Int)) r i)).length (row ((Ls.take k).filter (sel (fun j => (x j : Int)) (fun j => (y j : Int)) r i))) ∧ wr.heap[p]? = some (.cells #[.float .f64 FI, .float .f64 GI] 100 (0, 0)) ∧ CMv.Ch (fun k => fb ≤ k) w wr) (fun _ s99 _ => Ls.length - (intOf s99).toNat)
          case atStart => exact ⟨0, _, rfl, Nat.zero_le _, hUM, by simpa [row, CMv.upd] using hUo, hUP, hUW⟩
          case round =>
            obtain ⟨k, f2, rfl, hk, hMr, hor, hpr, hCr⟩ := hrel
            clear hUM hUo hUP hUW
            by_cases hlt : k < Ls.length
            · obtain ⟨g, rfl, hgc⟩ := HCELL.out wr f2 hMr k hlt
              have hjn := HLT.out k hlt
              have hji : Ls.getD k 0 ≠ i := by have := HLS.out; subst this; exact ms_ne _ _ _ _ _ _ hlt
              have hsucc := sift_next (sel (fun j => (x j : Int)) (fun j => (y j : Int)) r i) Ls k hlt
              obtain ⟨j, hj⟩ : ∃ j, j = Ls.getD k 0 := ⟨_, rfl⟩
              rw [← hj] at hgc hjn hji hsucc
              clear hj
              have hMd : Mov t r (wr.drewN 1) fb wb we nb cb n lo B0 x y f2 cl := hMr.keep (hMr.walks.at (fun _ _ _ => rfl)) ((CMv.Ch.refl _ wr).drew 1) L
              obtain ⟨cf, b1, b2, b3⟩ := hMd.fd
              have htop := hMd.top
              have HC40 : Hid (Calls Yba.prog 40 #[.pointer (some ⟨fb, 0, none⟩), .int .i64 j, .int .i64 t] (wr.drewN 1) fun e w'' => e = .returned (.agg #[.float .f64 (fI (x j)), .float .f64 (fI (y j))]) ∧ CMv.Walks t w'' wb we n n cb (fun j => (x j : Int)) (fun j => (y j : Int)) ∧ CMv.Ch (fun k => wb ≤ k ∧ k < we) (wr.drewN 1) w'') := CMv.at_field fb wb we n cb j cf (fun j => (x j : Int)) (fun j => (y j : Int)) t (wr.drewN 1) h0 ht hjn hMd.cfg (by omega) (by omega) hMd.walks (fun j hj => by have := hxy j hj; omega) b1 (by rw [b3 2 (by decide), hMd.f2]) hfb
              obtain ⟨bb, hbb⟩ : ∃ bb, bb = sel (fun j => (x j : Int)) (fun j => (y j : Int)) r i j := ⟨_, rfl⟩
              have hnear : CF.near (x i) (y i) (x j) (y j) r = bb := by
                rw [hbb]; unfold CF.near sel; simp [hji]
              have HC41 : Hid (∀ w : World, Calls Yba.prog 41 #[.agg #[.float .f64 FI, .float .f64 GI], .agg #[.float .f64 (fI (x j)), .float .f64 (fI (y j))], .float .f64 (fI r)] w fun e w' => e = .returned (.bool bb) ∧ w.grownBy w' none) := fun w => by
                have hi2 := hxy i hi
                have hj2 := hxy j hjn
                have := CF.within_any (x i) (y i) (x j) (y j) r w (by omega) (by omega) (by omega) (by omega) (by omega) (by omega) (by omega)
                rw [hnear, ← HFI.out.1, ← HFI.out.2] at this
                exact this
              rw [← hbb] at hsucc
              have HSU : Hid ((Ls.take (k + 1)).filter (sel (fun j => (x j : Int)) (fun j => (y j : Int)) r i) = (Ls.take k).filter (sel (fun j => (x j : Int)) (fun j => (y j : Int)) r i) ++ if bb = true then [j] else []) := hsucc
              have hslen : ((Ls.take k).filter (sel (fun j => (x j : Int)) (fun j => (y j : Int)) r i)).length ≤ 1024 := by
                have a1 := List.length_filter_le (sel (fun j => (x j : Int)) (fun j => (y j : Int)) r i) (Ls.take k)
                rw [List.length_take] at a1
                omega
              obtain ⟨sf, hsf⟩ : ∃ sf, sf = (Ls.take k).filter (sel (fun j => (x j : Int)) (fun j => (y j : Int)) r i) := ⟨_, rfl⟩
              rw [← hsf] at hor hslen
              have HSF : Hid (sf = (Ls.take k).filter (sel (fun j => (x j : Int)) (fun j => (y j : Int)) r i)) := hsf
              have e1 : wr.cell? ⟨fb, 1, none⟩ = some (.float .f64 (fI r)) := by rw [← hMr.f1]; exact hMr.fd.cell 1 (by decide)
              have p0 : wr.cell? ⟨p, 0, none⟩ = some (.float .f64 FI) := by rw [cell_of_row _ _ _ _ _ _ hpr]; rfl
              have p1 : wr.cell? ⟨p, 1, none⟩ = some (.float .f64 GI) := by rw [cell_of_row _ _ _ _ _ _ hpr]; rfl
              have q1 : (k : Int) < (Ls.length : Int) := by omega
              have hjs : (j : Int) ≤ 1024 := by omega
              have kw : IntKind.i64.wrap (j : Int) = j := by rw [IntKind.wrap_i64]; omega
              have hpwe : we ≤ p := by have := hMr.top; omega
              have hk1 : ∀ wq : World, CMv.Ch (fun k => wb ≤ k ∧ k < we) (wr.drewN 1) wq → wq.cell? ⟨p, 0, none⟩ = some (.float .f64 FI) ∧ wq.cell? ⟨p, 1, none⟩ = some (.float .f64 GI) ∧ wq.cell? ⟨fb, 1, none⟩ = some (.float .f64 (fI r)) := fun wq hc => by
                have h1 : wq.heap[p]? = wr.heap[p]? := hc.block p (CMv.heap_lt hpr) (by omega)
                have h2 : wq.heap[fb]? = wr.heap[fb]? := hc.block fb hMr.fd.lt (by omega)
                exact ⟨by rw [cell_of_row _ _ _ _ _ _ (h1.trans hpr)]; rfl, by rw [cell_of_row _ _ _ _ _ _ (h1.trans hpr)]; rfl, by rw [← hMr.f1]; exact (hMr.fd.at h2).cell 1 (by decide)⟩
              generalize fI (r : Int) = R at *
              generalize hXJ : fI (x j : Int) = XJ at *
              generalize hYJ : fI (y j : Int) = YJ at *
              clear hsucc hsf hbb hnear b1 b2 b3 hji hXJ hYJ
              have HK1 : Hid _ := hk1
              clear hk1
              go_wp2
              go_region_held3 (fun w' => w'.cell? ⟨p, 0, none⟩ = some (.float .f64 FI) ∧ w'.cell? ⟨p, 1, none⟩ = some (.float .f64 GI) ∧ w'.cell? ⟨fb, 1, none⟩ = some (.float .f64 R)) (first | with_reducible exact hk2 | with_reducible exact hk3 | go_keep) (first | (go_at_call 40; refine HC40.out.mono ?_; rintro e w2 ⟨rfl, hW2, hC2⟩; have hk2 := HK1.out w2 hC2) | (go_at_call 41; refine (HC41.out _).mono ?_; rintro e w3 ⟨rfl, hg3⟩; have hk3 : w3.cell? ⟨p, 0, none⟩ = some (.float .f64 FI) ∧ w3.cell? ⟨p, 1, none⟩ = some (.float .f64 GI) ∧ w3.cell? ⟨fb, 1, none⟩ = some (.float .f64 R) := ⟨hg3.cell hk2.1 (by simp), hg3.cell hk2.2.1 (by simp), hg3.cell hk2.2.2 (by simp)⟩))
              have hM2 := hMd.keep hW2 hC2 L
              have hor1 : (wr.drewN 1).ownsRow B0 21 1 (f2 10) sf.length (row sf) := hor.drew
              have hor2 : w2.ownsRow B0 21 1 (f2 10) sf.length (row sf) := owns_ch hor1 hC2 (fun g hg => by have := (hor1.lt g hg).1; have := hMr.top; omega)
              have hor3 : w3.ownsRow B0 21 1 (f2 10) sf.length (row sf) := owns_ch (S := fun _ => False) hor2 (CMv.Ch.ofNone hg3) (fun _ _ h => h)
              have hM3 : Mov t r w3 fb wb we nb cb n lo B0 x y f2 cl := hM2.above (CMv.Ch.ofNone hg3) L ⟨_, _, hor3⟩
              have hp3 : w3.heap[p]? = some (.cells #[.float .f64 FI, .float .f64 GI] 100 (0, 0)) := by
                have h1 : w2.heap[p]? = some _ := hC2.at (show (wr.drewN 1).heap[p]? = _ from hpr) (by omega)
                exact (hg3.block p (CMv.heap_lt h1) (by simp)).trans h1
              have hC3 : CMv.Ch (fun k => fb ≤ k) w w3 := ((hCr.drew 1).trans (hC2.mono (fun k hk => by omega))).trans (CMv.Ch.ofNone hg3)
              obtain ⟨aG, nG, cG, hfe⟩ := own_slice hor3
              have e10 : w3.cell? ⟨fb, 10, none⟩ = some (.slice aG nG cG) := by rw [← hfe]; exact hM3.fd.cell 10 (by decide)
              have HFE2 : Hid (f2 10 = .slice aG nG cG) := hfe
              rw [hfe] at hor3
              have hB3 := hM3.top
              clear hor hor1 hor2 hM2 hMd hMr hCr hC2 hW2 hg3 hpr hfe HC40 HC41 HK1 hk2 hk3 e1 p0 p1
              cases bb with
              | true =>
                go_wp2_with (at_builtin; refine wpList_append_own _ rfl _ _ 61 rfl B0 21 i0 _ 1 4 Yba.underlying61 hi0 hz0 hz1 hz2 rfl (by decide) (.slice aG nG cG) sf.length (row sf) rfl (hor3.alloc _) ⟨w3.heap.size, 0, none⟩ 1 1 [.int .i32 (j : Int)] rfl rfl (World.news_of_block (cs := #[.int .i32 (j : Int)]) (t := 21) (fr := (0, 0)) (heap_alloc_new w3 _)) (by simp [Value.oneCell']) (by unfold maxLen; omega) (by omega) (by simp; omega) ?_; intro v' w9 hown hgrow _; obtain ⟨va, vl, vc, rfl⟩ := own_slice hown; have hfb9 : w9.heap[fb]? = w3.heap[fb]? := (hgrow.block fb (by rw [World.size_alloc]; have := hM3.fd.lt; omega) (fun e => by have := (hor3.lt fb e.symm).1; omega)).trans (heap_alloc_old w3 _ hM3.fd.lt); have hF9 := hM3.fd.at hfb9; have x10 := hF9.cell 10 (by decide); have y10 := hF9.frozen 10)
                have hC9 : CMv.Ch (fun k => B0 ≤ k) w3 w9 := ((CMv.Ch.refl _ w3).alloc _).grown hgrow (fun k e _ => (hor3.lt k e).1)
                obtain ⟨hM9, ho9⟩ := hM3.push hC9 L _ _ _ hown
                have hp9 : (w9.setCell ⟨fb, 10, none⟩ (.slice va vl vc)).heap[p]? = some (.cells #[.float .f64 FI, .float .f64 GI] 100 (0, 0)) := by
                  rw [heap_setCell_other w9 ⟨fb, 10, none⟩ p _ (by show p ≠ fb; omega)]
                  refine (hgrow.block p (by rw [World.size_alloc]; have := CMv.heap_lt hp3; omega) (fun e => ?_)).trans ((heap_alloc_old w3 _ (CMv.heap_lt hp3)).trans hp3)
                  rcases hor3.2 with ⟨h1, _⟩ | ⟨g2, cap, cur, h1, _, h3, _⟩
                  · cases h1; cases e
                  · cases h1
                    cases e
                    rw [hp3] at h3
                    have := congrArg (fun o : Option Obj => o.map (fun o => match o with | .cells _ t _ => t | _ => 0)) h3
                    exact absurd this (by simp)
                have hCw : CMv.Ch (fun k => fb ≤ k) w (w9.setCell ⟨fb, 10, none⟩ (.slice va vl vc)) := (hC3.trans (hC9.mono (fun k hk => by omega))).setCell fb _ _ (fun _ => Nat.le_refl _)
                go_roundw
                case rel => exact ⟨k + 1, _, by go_num, by omega, hM9, by rw [HSU.out, ← HSF.out]; simpa [row, CMv.upd] using ho9, hp9, hCw⟩
                case measure => simp [intOf]; omega
              | false =>
                go_wp2_with fail
                go_roundw
                case rel => exact ⟨k + 1, f2, by go_num, by omega, hM3, by rw [HSU.out, ← HSF.out, HFE2.out]; simpa using hor3, hp3, hC3⟩
                case measure => simp [intOf]; omega
            · obtain rfl : k = Ls.length := by omega
              obtain ⟨aG, nG, cG, hfe⟩ := own_slice hor
              have e10 : wr.cell? ⟨fb, 10, none⟩ = some (f2 10) := hMr.fd.cell 10 (by decide)
              have HOR : Hid (wr.ownsRow B0 21 1 (f2 10) (ms (fun j => (x j : Int)) (fun j => (y j : Int)) r i n).length (row (ms (fun j => (x j : Int)) (fun j => (y j : Int)) r i n))) := by rw [List.take_length, HMS.out] at hor; exact hor
              have HFF : Hid (f2 10 = .slice aG nG cG) := hfe
              rw [hfe] at e10
              clear hor hfe
              go_wp2
              go_ret
              exact ⟨lo, B0, f2, cl, hlo, by rw [HFF.out]; rfl, hMr, owns_base HOR.out (Nat.zero_le _), hCr⟩
end Go.Proofs.Ybulkyyu.CLaw
