/- The walk of LawS1255CMoving, whole. -/
import Derived.Test.YbulkyyuCNearM
import Derived.Test.YbulkyyuCFieldM
import Derived.Test.YbulkyyuCConfigM
namespace Go.Proofs.Ybulkyyu.CLaw
open Go.RowKit
open Go.Proofs.Ybulkyyu.CF (fI Idx idx_whole fInf)

theorem moving_big (a : Option Addr) (n c : Nat) (r t : Int) (w : World) (h : 1024 < n ∨ n = 0) :
    Calls Yba.prog 8 #[.slice a n c, .int .u8 r, .int .u32 t] w fun e w' => e = .returned (.bool true) ∧ Below w.heap.size w w' := by
  rcases h with h | rfl
  · have h1 : (1024 : Int) < (n : Int) := by omega
    go_enter Yba.func8, Yba.ntmps8
    go_wp2
    go_ret
    exact ⟨rfl, Below.refl _ _⟩
  · go_enter Yba.func8, Yba.ntmps8
    go_wp2
    go_ret
    exact ⟨rfl, Below.refl _ _⟩

theorem Pos.congr {w : World} {g n k : Nat} {x y x' y' : Nat → Int} (h : Pos w g n k x y) (he : ∀ j, j < k → x j = x' j ∧ y j = y' j) : Pos w g n k x' y' := by
  obtain ⟨cur, a1, a2, a3⟩ := h
  refine ⟨cur, a1, a2, fun j hj => ?_⟩
  rw [← (he j hj).1, ← (he j hj).2]
  exact a3 j hj

set_option maxRecDepth 100000 in
set_option maxHeartbeats 8000000 in
theorem moving_small (a : Option Addr) (n c : Nat) (X Y : Nat → Int) (r : Nat) (t : Int) (w : World) (hn : n ≤ 1024) (h0 : 0 < n) (hr : r ≤ 255) (t0 : 0 ≤ t) (ht : t ≤ 4294967295) (hN : Nodes w.heap.size w a n X Y) :
    Calls Yba.prog 8 #[.slice a n c, .int .u8 r, .int .u32 t] w fun e w' => e = .returned (.bool true) ∧ Below w.heap.size w w' := by
  obtain ⟨x, hx⟩ : ∃ x : Nat → Nat, x = fun j => (2 + X j).toNat := ⟨_, rfl⟩
  obtain ⟨y, hy⟩ : ∃ y : Nat → Nat, y = fun j => (2 + Y j).toNat := ⟨_, rfl⟩
  have hb : ∀ j, j < n → (0 ≤ X j ∧ X j ≤ 255) ∧ 0 ≤ Y j ∧ Y j ≤ 255 := fun j hj => by obtain ⟨_, _, _, _, hc⟩ := hN; exact (hc j hj).2
  have hxe : ∀ j, j < n → ((2 + X j = (x j : Int)) ∧ 2 + Y j = (y j : Int)) ∧ x j ≤ 500 ∧ y j ≤ 500 ∧ 0 < x j ∧ 0 < y j := fun j hj => by
    have := hb j hj
    have e1 : x j = (2 + X j).toNat := by rw [hx]
    have e2 : y j = (2 + Y j).toNat := by rw [hy]
    omega
  have hselE : ∀ i, i < n → ∀ j, j < n → sel (fun j => (x j : Int)) (fun j => (y j : Int)) r i j = sel X Y r i j := fun i hi j hj => by
    rw [← sel_shift X Y r i j]
    unfold sel
    simp only [(hxe i hi).1.1, (hxe i hi).1.2, (hxe j hj).1.1, (hxe j hj).1.2]
  have hms : ∀ i, i < n → ms (fun j => (x j : Int)) (fun j => (y j : Int)) r i n = ms X Y r i n := fun i hi => by
    unfold ms
    exact List.filter_congr (fun j hj => hselE i hi j (by simpa using hj))
  obtain ⟨qx, hqx⟩ : ∃ qx : Nat → Nat, qx = fun j => x j / (r + 1) := ⟨_, rfl⟩
  obtain ⟨qy, hqy⟩ : ∃ qy : Nat → Nat, qy = fun j => y j / (r + 1) := ⟨_, rfl⟩
  have hI : ∀ j, j < n → Idx (fI ((r : Int) + 1)) (x j) (qx j) ∧ Idx (fI ((r : Int) + 1)) (y j) (qy j) ∧ qx j ≤ 1000 ∧ qy j ≤ 1000 := fun j hj => by
    obtain ⟨_, b1, b2, b3, b4⟩ := hxe j hj
    rw [hqx, hqy]
    refine ⟨idx_whole _ (r + 1) b3 (by omega) (by omega) (by omega), idx_whole _ (r + 1) b4 (by omega) (by omega) (by omega), ?_, ?_⟩
    · exact Nat.le_trans (Nat.div_le_self _ _) (by omega)
    · exact Nat.le_trans (Nat.div_le_self _ _) (by omega)
  have hcl : ∀ i, i < n → ∀ j, j < n → sel (fun j => (x j : Int)) (fun j => (y j : Int)) (r + 1 : Nat) i j = true → ((qx i : Int) - 1 ≤ qx j ∧ (qx j : Int) ≤ qx i + 1) ∧ (qy i : Int) - 1 ≤ qy j ∧ (qy j : Int) ≤ qy i + 1 := fun i hi j hj hs => by
    rw [hqx, hqy]
    unfold sel at hs
    simp only [Bool.and_eq_true, decide_eq_true_eq] at hs
    have s1 : 0 ≤ ((x i : Int) - x j) * ((x i : Int) - x j) := by rw [← Int.natAbs_mul_self]; exact Int.natCast_nonneg _
    have s2 : 0 ≤ ((y i : Int) - y j) * ((y i : Int) - y j) := by rw [← Int.natAbs_mul_self]; exact Int.natCast_nonneg _
    have t1 := beside (x i) (x j) (r + 1) (by omega) (by omega)
    have t2 := beside (y i) (y j) (r + 1) (by omega) (by omega)
    exact ⟨t1, t2⟩
  have hxy : ∀ j, j < n → (2 ≤ x j ∧ x j ≤ 500) ∧ 2 ≤ y j ∧ y j ≤ 500 := fun j hj => by
    have := hb j hj
    have e1 : x j = (2 + X j).toNat := by rw [hx]
    have e2 : y j = (2 + Y j).toNat := by rw [hy]
    omega
  have HMS : Hid (∀ i, i < n → ms (fun j => (x j : Int)) (fun j => (y j : Int)) r i n = ms X Y r i n) := hms
  have HXE : Hid (∀ j, j < n → 2 + X j = (x j : Int) ∧ 2 + Y j = (y j : Int)) := fun j hj => (hxe j hj).1
  have HI : Hid (∀ j, j < n → Idx (fI ((r : Int) + 1)) (x j) (qx j) ∧ Idx (fI ((r : Int) + 1)) (y j) (qy j) ∧ qx j ≤ 1000 ∧ qy j ≤ 1000) := hI
  have HCL : Hid (∀ i, i < n → ∀ j, j < n → sel (fun j => (x j : Int)) (fun j => (y j : Int)) (r + 1 : Nat) i j = true → ((qx i : Int) - 1 ≤ qx j ∧ (qx j : Int) ≤ qx i + 1) ∧ (qy i : Int) - 1 ≤ qy j ∧ (qy j : Int) ≤ qy i + 1) := hcl
  have HXY : Hid (∀ j, j < n → (2 ≤ x j ∧ x j ≤ 500) ∧ 2 ≤ y j ∧ y j ≤ 500) := hxy
  clear hms hxe hI hcl hxy hselE hb hx hy hqx hqy
  have k1 : (n : Int) ≤ 1024 := by omega
  have k2 : ((n : Int) == 0) = false := beq_eq_false_iff_ne.2 (by omega)
  have kw : IntKind.i64.wrap t = t := by rw [IntKind.wrap_i64]; omega
  go_enter Yba.func8, Yba.ntmps8
  go_wp2_with (go_at_call 20; refine (config_moving a n c X Y r w hn hN).mono ?_; rintro e w1 ⟨cc, rfl, hc1, ⟨c0, c1, c2⟩, ⟨c3, c4, c5, c6, c37⟩, hPos, hg1⟩)
  refine (field_moving (w.heap.size + 1) w.heap.size n r cc (fun j => (x j : Int)) (fun j => (y j : Int)) t w1 hn hr hc1 c0 c1 c2 c5 c37 (hPos.congr HXE.out)).mono ?_
  rintro e w2 ⟨cur, wb, we, nb, rfl, hF2, hcs, ⟨f0, f1, f2, f3, f4, f6, f7, f8, f9, f10, f11⟩, hNB, hWk, ⟨z1, z2, z3⟩, hg2⟩
  have hgw : w.grownBy w2 none := CSort.grown_trans hg1 hg2
  have hbw : Below w.heap.size w w2 := (Below.refl _ _).grown hgw (Nat.le_refl _) (fun k e => by cases e)
  have hcbl := CMv.heap_lt hc1
  have hcfg : CMv.Cfg w2 (w.heap.size + 1) := ⟨cc, (hg2.block (w.heap.size + 1) hcbl (by simp)).trans hc1, c3, c4, c5, c6⟩
  obtain ⟨fb, hfb⟩ : ∃ fb, fb = w1.heap.size + 1 := ⟨_, rfl⟩
  obtain ⟨sb, hsb⟩ : ∃ sb, sb = w1.heap.size := ⟨_, rfl⟩
  obtain ⟨cb, hcb⟩ : ∃ cb, cb = w.heap.size + 1 := ⟨_, rfl⟩
  rw [← hfb] at hF2 z1 ⊢
  rw [← hsb] at f0
  rw [← hcb] at hcfg hWk
  have hcf : cb < fb := by omega
  have hfw : w.heap.size ≤ fb := by have := hg1.size; omega
  have hA : ∃ f, Fd w2 fb f ∧ f 0 = .slice (some ⟨sb, 0, none⟩) n n ∧ f 1 = .float .f64 (fI r) ∧ f 2 = .slice (some ⟨wb, 0, none⟩) n n ∧ f 3 = .float .f64 (fI ((r : Int) + 1)) ∧ f 4 = .map none ∧ f 6 = .int .i64 3153600000000000000 ∧ f 7 = .float .f64 (fI ((r + 1 : Nat) : Int)) ∧ f 8 = .int .i64 (-1) ∧ f 9 = .slice (some ⟨nb, 0, none⟩) n n ∧ f 10 = .slice none 0 0 ∧ (∃ z, f 11 = .int .i64 z) ∧ CMv.Cfg w2 cb ∧ CMv.Walks t w2 wb we n n cb (fun j => (x j : Int)) (fun j => (y j : Int)) ∧ w2.heap[nb]? = some (.cells (zer (.slice none 0 0) 1 n) 61 (0, 0)) := by
    have cell : ∀ {i : Nat} {v : Value}, cur[i]? = some v → (cur[i]?).getD undef = v := fun h => by rw [h]; rfl
    refine ⟨fun i => (cur[i]?).getD undef, ⟨cur, hF2, hcs, fun i hi => ?_⟩, cell f0, cell f1, cell f2, cell f3, cell f4, cell f6, cell f7, cell f8, cell f9, cell f10, ⟨0, cell f11⟩, hcfg, hWk, hNB⟩
    show cur[i]? = some ((cur[i]?).getD undef)
    rw [Array.getElem?_eq_getElem (by omega)]
    rfl
  have HN : Hid (∀ (i : Nat) (w' : World), i < n → ((∃ f, Fd w' fb f ∧ f 0 = .slice (some ⟨sb, 0, none⟩) n n ∧ f 1 = .float .f64 (fI r) ∧ f 2 = .slice (some ⟨wb, 0, none⟩) n n ∧ f 3 = .float .f64 (fI ((r : Int) + 1)) ∧ f 4 = .map none ∧ f 6 = .int .i64 3153600000000000000 ∧ f 7 = .float .f64 (fI ((r + 1 : Nat) : Int)) ∧ f 8 = .int .i64 (-1) ∧ f 9 = .slice (some ⟨nb, 0, none⟩) n n ∧ f 10 = .slice none 0 0 ∧ (∃ z, f 11 = .int .i64 z) ∧ CMv.Cfg w' cb ∧ CMv.Walks t w' wb we n n cb (fun j => (x j : Int)) (fun j => (y j : Int)) ∧ w'.heap[nb]? = some (.cells (zer (.slice none 0 0) 1 n) 61 (0, 0))) ∨ ∃ lo B0 f cl, nb < lo ∧ Mov t r w' fb wb we nb cb n lo B0 x y f cl) →
      Calls Yba.prog 21 #[.pointer (some ⟨fb, 0, none⟩), .int .i64 i, .int .i64 t] w' fun e w'' => ∃ lo B0 f cl, nb < lo ∧ e = .returned (f 10) ∧ Mov t r w'' fb wb we nb cb n lo B0 x y f cl ∧ w''.ownsRow 0 21 1 (f 10) (ms (fun j => (x j : Int)) (fun j => (y j : Int)) r i n).length (row (ms (fun j => (x j : Int)) (fun j => (y j : Int)) r i n)) ∧ CMv.Ch (fun k => fb ≤ k) w' w'') := fun i w' hi hph => near_moving fb sb wb we nb cb n (fI ((r : Int) + 1)) x y qx qy r i t w' hn hi hr t0 ht hcf (by omega) z2 z3 HXY.out HI.out HCL.out hph
  have hfwb : fb < wb := z1
  clear hfb hsb hcb hF2 hcs f0 f1 f2 f3 f4 f6 f7 f8 f9 f10 f11 hNB hWk hg1 hg2 hc1 c0 c1 c2 c3 c4 c5 c6 c37 hPos hcfg hgw hcbl
  go_wp2_with fail
  go_loopw [8, 9] (fun s8 _ wr => ∃ h : Nat, s8 = .int .i64 h ∧ h ≤ n ∧ Below w.heap.size w wr ∧ ((h = 0 ∧ wr = w2) ∨ ∃ lo B0 f cl, nb < lo ∧ Mov t r wr fb wb we nb cb n lo B0 x y f cl)) (fun s8 _ _ => n - (intOf s8).toNat)
  case atStart => exact ⟨0, rfl, Nat.zero_le _, hbw, .inl ⟨rfl, rfl⟩⟩
  case round =>
    obtain ⟨h, rfl, hh, hbel, hst⟩ := hrel
    by_cases hlt : h < n
    · have HC : Hid (Calls Yba.prog 21 #[.pointer (some ⟨fb, 0, none⟩), .int .i64 h, .int .i64 t] wr fun e w'' => ∃ lo B0 f cl, nb < lo ∧ e = .returned (f 10) ∧ Mov t r w'' fb wb we nb cb n lo B0 x y f cl ∧ w''.ownsRow 0 21 1 (f 10) (ms X Y r h n).length (row (ms X Y r h n)) ∧ Below w.heap.size w w'') := by
        show Calls _ _ _ _ _
        refine (HN.out h wr hlt (by rcases hst with ⟨_, rfl⟩ | hm; exact .inl hA; exact .inr hm)).mono ?_
        rintro e w3 ⟨lo, B0, f, cl, hlo, rfl, hM, ho, hC⟩
        rw [HMS.out h hlt] at ho
        exact ⟨lo, B0, f, cl, hlo, rfl, hM, ho, hbel.trans ((hC.below hbel.size (fun k hk => by omega)))⟩
      clear hst
      have q1 : (h : Int) < (n : Int) := by omega
      go_wp2_with (go_at_call 21; refine HC.out.mono ?_; rintro e w3 ⟨lo, B0, f, cl, hlo, rfl, hM, ho, hb3⟩)
      refine (model_any a n c X Y h (r : Int) w3 hn hlt (by omega) (nodes_below hN hb3 hb3.size)).mono ?_
      rintro e w4 ⟨v', rfl, ho', hb4⟩
      have hg4 : w3.grownBy w4 none := ⟨hb4.os, hb4.tape, hb4.output, hb4.size, fun k hk _ => hb4.block k hk⟩
      have L : Lie fb wb we nb cb lo := ⟨hcf, hfwb, z2, z3, hlo⟩
      obtain ⟨lnf, xsf, hfo⟩ := hM.found
      have hM4 := hM.above (CMv.Ch.ofNone hg4) L ⟨_, _, owns_ch (S := fun _ => False) hfo (CMv.Ch.ofNone hg4) (fun _ _ h => h)⟩
      have ho4 := ho.kept hg4 (by cases e : (f 10).ownBlock <;> simp)
      have hlen := ms_len X Y (r : Int) h n
      obtain ⟨a1, d1, hfe, hv1⟩ := form21 ho4
      obtain ⟨a2, d2, rfl, hv2⟩ := form21 ho'
      have hb5 : Below w.heap.size w w4 := hb3.trans (hb4.mono hb3.size)
      have HEQ : Hid (Calls Yba.prog 22 #[.slice a1 (ms X Y r h n).length d1, .slice a2 (ms X Y r h n).length d2] w4 fun e w' => e = .returned (.bool true) ∧ ∃ t, w' = w4.drewN t) := equal_any a1 a2 (ms X Y r h n).length d1 d2 (fun i => (((ms X Y r h n).getD i 0 : Nat) : Int)) w4 (by omega) hv1 hv2
      rw [hfe]
      clear ho ho' ho4 hv1 hv2 hM hfo hfe
      generalize (ms X Y r h n).length = ln at *
      go_wp2_with (go_at_call 22; refine HEQ.out.mono ?_; rintro e w5 ⟨rfl, tt, rfl⟩)
      go_roundw
      case rel => exact ⟨h + 1, by go_num, by omega, below_drewN hb5 _, .inr ⟨lo, B0, f, cl, hlo, hM4.keep (hM4.walks.at (fun _ _ _ => rfl)) ((CMv.Ch.refl _ w4).drew tt) L⟩⟩
      case measure => simp [intOf]; omega
    · go_wp2
      go_ret
      exact ⟨rfl, hbel⟩
end Go.Proofs.Ybulkyyu.CLaw
