/- The walk of LawS1255CStatic, whole. -/
import Derived.Test.YbulkyyuCLaw
namespace Go.Proofs.Ybulkyyu.CLaw
open Go.RowKit
open Go.Proofs.Ybulkyyu.CF (fI Idx idx_whole idx_inf fInf)

theorem static_big (a : Option Addr) (n c : Nat) (r t : Int) (w : World) (h : 1024 < n ∨ n = 0) :
    Calls Yba.prog 7 #[.slice a n c, .int .u8 r, .int .i64 t] w fun e w' => e = .returned (.bool true) ∧ Below w.heap.size w w' := by
  rcases h with h | rfl
  · have h1 : (1024 : Int) < (n : Int) := by omega
    go_enter Yba.func7, Yba.ntmps7
    go_wp2
    go_ret
    exact ⟨rfl, Below.refl _ _⟩
  · go_enter Yba.func7, Yba.ntmps7
    go_wp2
    go_ret
    exact ⟨rfl, Below.refl _ _⟩

theorem Pts.congr {w : World} {g n k : Nat} {x y x' y' : Nat → Int} (h : Pts w g n k x y) (he : ∀ j, j < k → x j = x' j ∧ y j = y' j) : Pts w g n k x' y' := by
  obtain ⟨cur, a1, a2, a3⟩ := h
  refine ⟨cur, a1, a2, fun j hj => ?_⟩
  rw [← (he j hj).1, ← (he j hj).2]
  exact a3 j hj

set_option maxRecDepth 100000 in
set_option maxHeartbeats 8000000 in
theorem static_small (a : Option Addr) (n c : Nat) (X Y : Nat → Int) (r : Nat) (t : Int) (w : World) (hn : n ≤ 1024) (h0 : 0 < n) (hr : r ≤ 255) (hN : Nodes w.heap.size w a n X Y) :
    Calls Yba.prog 7 #[.slice a n c, .int .u8 r, .int .i64 t] w fun e w' => e = .returned (.bool true) ∧ Below w.heap.size w w' := by
  obtain ⟨x, hx⟩ : ∃ x : Nat → Nat, x = fun j => (2 + X j).toNat := ⟨_, rfl⟩
  obtain ⟨y, hy⟩ : ∃ y : Nat → Nat, y = fun j => (2 + Y j).toNat := ⟨_, rfl⟩
  have hb : ∀ j, j < n → (0 ≤ X j ∧ X j ≤ 255) ∧ 0 ≤ Y j ∧ Y j ≤ 255 := fun j hj => by obtain ⟨_, _, _, _, hc⟩ := hN; exact (hc j hj).2
  have hxe : ∀ j, j < n → ((2 + X j = (x j : Int)) ∧ 2 + Y j = (y j : Int)) ∧ x j ≤ 500 ∧ y j ≤ 500 ∧ 0 < x j ∧ 0 < y j := fun j hj => by
    have := hb j hj
    have e1 : x j = (2 + X j).toNat := by rw [hx]
    have e2 : y j = (2 + Y j).toNat := by rw [hy]
    omega
  have hselE : ∀ i, i < n → ∀ j, j < n → sel (fun j => (x j : Int)) (fun j => (y j : Int)) r i j = sel X Y r i j := fun i hi j hj => by
    rw [← sel_shift X Y r i j]
    unfold sel
    simp only [(hxe i hi).1.1, (hxe i hi).1.2, (hxe j hj).1.1, (hxe j hj).1.2]
  have hms : ∀ i, i < n → ms (fun j => (x j : Int)) (fun j => (y j : Int)) r i n = ms X Y r i n := fun i hi => by
    unfold ms
    exact List.filter_congr (fun j hj => hselE i hi j (by simpa using hj))
  obtain ⟨qx, hqx⟩ : ∃ qx : Nat → Nat, qx = fun j => if r = 0 then 0 else x j / r := ⟨_, rfl⟩
  obtain ⟨qy, hqy⟩ : ∃ qy : Nat → Nat, qy = fun j => if r = 0 then 0 else y j / r := ⟨_, rfl⟩
  have hI : ∀ j, j < n → Idx (cellBits r) (x j) (qx j) ∧ Idx (cellBits r) (y j) (qy j) ∧ qx j ≤ 1000 ∧ qy j ≤ 1000 := fun j hj => by
    obtain ⟨_, b1, b2, b3, b4⟩ := hxe j hj
    unfold cellBits
    rw [hqx, hqy]
    by_cases e : r = 0
    · simp only [e, if_true]
      exact ⟨idx_inf _ (by omega), idx_inf _ (by omega), by omega, by omega⟩
    · simp only [e, if_false]
      refine ⟨idx_whole _ _ b3 (by omega) (by omega) (by omega), idx_whole _ _ b4 (by omega) (by omega) (by omega), ?_, ?_⟩
      · exact Nat.le_trans (Nat.div_le_self _ _) (by omega)
      · exact Nat.le_trans (Nat.div_le_self _ _) (by omega)
  have hcl : ∀ i, i < n → ∀ j, j < n → sel (fun j => (x j : Int)) (fun j => (y j : Int)) r i j = true → ((qx i : Int) - 1 ≤ qx j ∧ (qx j : Int) ≤ qx i + 1) ∧ (qy i : Int) - 1 ≤ qy j ∧ (qy j : Int) ≤ qy i + 1 := fun i hi j hj hs => by
    rw [hqx, hqy]
    by_cases e : r = 0
    · simp [e]
    · simp only [e, if_false]
      unfold sel at hs
      simp only [Bool.and_eq_true, decide_eq_true_eq] at hs
      have s1 : 0 ≤ ((x i : Int) - x j) * ((x i : Int) - x j) := by rw [← Int.natAbs_mul_self]; exact Int.natCast_nonneg _
      have s2 : 0 ≤ ((y i : Int) - y j) * ((y i : Int) - y j) := by rw [← Int.natAbs_mul_self]; exact Int.natCast_nonneg _
      have t1 := beside (x i) (x j) r (by omega) (by omega)
      have t2 := beside (y i) (y j) r (by omega) (by omega)
      exact ⟨t1, t2⟩
  have hxy : ∀ j, j < n → x j ≤ 500 ∧ y j ≤ 500 := fun j hj => ⟨(hxe j hj).2.1, (hxe j hj).2.2.1⟩
  have HMS : Hid (∀ i, i < n → ms (fun j => (x j : Int)) (fun j => (y j : Int)) r i n = ms X Y r i n) := hms
  have HXE : Hid (∀ j, j < n → 2 + X j = (x j : Int) ∧ 2 + Y j = (y j : Int)) := fun j hj => (hxe j hj).1
  have HI : Hid (∀ j, j < n → Idx (cellBits r) (x j) (qx j) ∧ Idx (cellBits r) (y j) (qy j) ∧ qx j ≤ 1000 ∧ qy j ≤ 1000) := hI
  have HCL : Hid (∀ i, i < n → ∀ j, j < n → sel (fun j => (x j : Int)) (fun j => (y j : Int)) r i j = true → ((qx i : Int) - 1 ≤ qx j ∧ (qx j : Int) ≤ qx i + 1) ∧ (qy i : Int) - 1 ≤ qy j ∧ (qy j : Int) ≤ qy i + 1) := hcl
  have HXY : Hid (∀ j, j < n → x j ≤ 500 ∧ y j ≤ 500) := hxy
  clear hms hxe hI hcl hxy hselE hb hx hy hqx hqy
  have k1 : (n : Int) ≤ 1024 := by omega
  have k2 : ((n : Int) == 0) = false := beq_eq_false_iff_ne.2 (by omega)
  go_enter Yba.func7, Yba.ntmps7
  go_wp2_with (go_at_call 20; refine (config_static a n c X Y r w hn hN).mono ?_; rintro e w1 ⟨cc, rfl, hc1, ⟨c0, c1, c2⟩, hPos, hg1⟩)
  refine (field_static (w.heap.size + 1) w.heap.size n r cc (fun j => 2 + X j) (fun j => 2 + Y j) w1 hn (by omega) hc1 c0 c1 c2 hPos).mono ?_
  rintro e w2 ⟨cur, rfl, hF2, hcs, ⟨f0, f1, f2, f3, f4, f5⟩, hPts, hg2⟩
  have hPts' : Pts w2 w1.heap.size n n (fun j => (x j : Int)) (fun j => (y j : Int)) := hPts.congr HXE.out
  have hgw : w.grownBy w2 none := CSort.grown_trans hg1 hg2
  have hbw : Below w.heap.size w w2 := (Below.refl _ _).grown hgw (Nat.le_refl _) (fun k e => by cases e)
  obtain ⟨fb, hfb⟩ : ∃ fb, fb = w1.heap.size + 1 := ⟨_, rfl⟩
  obtain ⟨pb, hpb⟩ : ∃ pb, pb = w1.heap.size := ⟨_, rfl⟩
  have hpf : pb ≠ fb := by omega
  have hfw : w.heap.size ≤ fb := by have := hg1.size; omega
  have hN1 := fun (i : Nat) (w' : World) (hi : i < n) (hw : w' = w2) => near_first fb pb n (cellBits r) x y qx qy r cur i t w' hn hi (by omega) (by rw [hw, hfb]; exact hF2) hcs (by rw [hpb]; exact f0) f1 f2 f3 f4 f5 hpf (by rw [hw, hpb]; exact hPts') HXY.out HI.out HCL.out
  have HN1 : Hid (∀ (i : Nat) (w' : World), i < n → w' = w2 → Calls Yba.prog 21 #[.pointer (some ⟨fb, 0, none⟩), .int .i64 i, .int .i64 t] w' fun e w'' => ∃ v lb, e = .returned v ∧ Links w'' fb lb n (fun j => ms (fun j => (x j : Int)) (fun j => (y j : Int)) r j n) ∧ w''.ownsRow 0 21 1 v (ms (fun j => (x j : Int)) (fun j => (y j : Int)) r i n).length (row (ms (fun j => (x j : Int)) (fun j => (y j : Int)) r i n)) ∧ w'.grownBy w'' (some fb)) := hN1
  rw [← hfb]
  clear hN1 hfb hpb hF2 hcs f0 f1 f2 f3 f4 f5 hPts hPts' hg1 hg2 hc1 c0 c1 c2 hPos
  go_wp2_with fail
  go_loopw [8, 9] (fun s8 _ wr => ∃ h : Nat, s8 = .int .i64 h ∧ h ≤ n ∧ Below w.heap.size w wr ∧ ((h = 0 ∧ wr = w2) ∨ ∃ lb, Links wr fb lb n (fun j => ms (fun j => (x j : Int)) (fun j => (y j : Int)) r j n))) (fun s8 _ _ => n - (intOf s8).toNat)
  case atStart => exact ⟨0, rfl, Nat.zero_le _, hbw, .inl ⟨rfl, rfl⟩⟩
  case round =>
    obtain ⟨h, rfl, hh, hbel, hst⟩ := hrel
    by_cases hlt : h < n
    · have HC : Hid (Calls Yba.prog 21 #[.pointer (some ⟨fb, 0, none⟩), .int .i64 h, .int .i64 t] wr fun e w'' => ∃ v lb, e = .returned v ∧ Links w'' fb lb n (fun j => ms (fun j => (x j : Int)) (fun j => (y j : Int)) r j n) ∧ w''.ownsRow 0 21 1 v (ms X Y r h n).length (row (ms X Y r h n)) ∧ Below w.heap.size w w'') := by
        show Calls _ _ _ _ _
        rcases hst with ⟨rfl, hw⟩ | ⟨lb, hL⟩
        · refine (HN1.out 0 wr hlt hw).mono ?_
          rintro e w3 ⟨v, lb, rfl, hL, ho, hg⟩
          rw [HMS.out 0 hlt] at ho
          exact ⟨v, lb, rfl, hL, ho, hbel.grown hg hbel.size (fun k e => by cases e; exact hfw)⟩
        · refine (near_again fb lb n _ h t wr hlt hL).mono ?_
          rintro e w3 ⟨v, rfl, rfl, ho⟩
          rw [HMS.out h hlt] at ho
          exact ⟨v, lb, rfl, hL, ho, hbel⟩
      clear hst
      have q1 : (h : Int) < (n : Int) := by omega
      go_wp2_with (go_at_call 21; refine HC.out.mono ?_; rintro e w3 ⟨v, lb, rfl, hL, ho, hb3⟩)
      refine (model_any a n c X Y h (r : Int) w3 hn hlt (by omega) (nodes_below hN hb3 hb3.size)).mono ?_
      rintro e w4 ⟨v', rfl, ho', hb4⟩
      have hg4 : w3.grownBy w4 none := ⟨hb4.os, hb4.tape, hb4.output, hb4.size, fun k hk _ => hb4.block k hk⟩
      have hL4 := links_below hL hg4
      have ho4 := ho.kept hg4 (by cases e : v.ownBlock <;> simp)
      have hlen := ms_len X Y (r : Int) h n
      obtain ⟨a1, d1, rfl, hv1⟩ := form21 ho4
      obtain ⟨a2, d2, rfl, hv2⟩ := form21 ho'
      have hb5 : Below w.heap.size w w4 := hb3.trans (hb4.mono hb3.size)
      have HEQ : Hid (Calls Yba.prog 22 #[.slice a1 (ms X Y r h n).length d1, .slice a2 (ms X Y r h n).length d2] w4 fun e w' => e = .returned (.bool true) ∧ ∃ t, w' = w4.drewN t) := equal_any a1 a2 (ms X Y r h n).length d1 d2 (fun i => (((ms X Y r h n).getD i 0 : Nat) : Int)) w4 (by omega) hv1 hv2
      clear ho ho' ho4 hv1 hv2 hL
      generalize (ms X Y r h n).length = ln at *
      go_wp2_with (go_at_call 22; refine HEQ.out.mono ?_; rintro e w5 ⟨rfl, tt, rfl⟩)
      go_roundw
      case rel => exact ⟨h + 1, by go_num, by omega, below_drewN hb5 _, .inr ⟨lb, links_below hL4 (CSort.grown_drewN (CSort.grown_refl _ none) _)⟩⟩
      case measure => simp [intOf]; omega
    · go_wp2
      go_ret
      exact ⟨rfl, hbel⟩
end Go.Proofs.Ybulkyyu.CLaw
