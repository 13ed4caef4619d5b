/- field.gather where the nodes stand still. -/
import Derived.Test.YbulkyyuCFd
namespace Go.Proofs.Ybulkyyu.CLaw
open Go.RowKit
open Go.Proofs.Ybulkyyu.CF (fI Idx)
open Go.Proofs.Ybulkyyu.CMap (st_float Bk build_any search_any)

/-- The blocks that gather may write: the field, the walks and their generators, the lists of the near. -/
def Gat (fb wb we nb : Nat) : Nat → Prop := fun k => k = fb ∨ (wb ≤ k ∧ k < we) ∨ k = nb

theorem zer_nil (n j : Nat) (h : j < n) : (zer (.slice none 0 0) 1 n)[j]? = some (.slice none 0 0) := by
  show (madeCells #[.slice none 0 0] (n * 1))[j]? = _
  rw [← Array.getElem?_toList, toList_madeCells_one, List.getElem?_replicate, if_pos (by omega)]

set_option linter.unusedSimpArgs false in
set_option maxRecDepth 100000 in
set_option maxHeartbeats 16000000 in
theorem gather_any (fb sb wb we nb cb n C : Nat) (x y qx qy : Nat → Nat) (r : Nat) (f : Nat → Value) (t : Int) (w : World) (hn : n ≤ 1024) (hr : r ≤ 500) (h0 : 0 ≤ t) (ht : t ≤ 4294967295)
    (hF : Fd w fb f) (f0 : f 0 = .slice (some ⟨sb, 0, none⟩) n n) (f2 : f 2 = .slice (some ⟨wb, 0, none⟩) n n) (f3 : f 3 = .float .f64 C) (f4 : f 4 = .map none) (f7 : f 7 = .float .f64 (fI r)) (f9 : f 9 = .slice (some ⟨nb, 0, none⟩) n n)
    (hcb : cb < wb) (hfb : fb < wb) (hwe : wb < we) (hnb : we ≤ nb) (hc : CMv.Cfg w cb) (hW : CMv.Walks t w wb we n n cb (fun j => (x j : Int)) (fun j => (y j : Int))) (hN : w.heap[nb]? = some (.cells (zer (.slice none 0 0) 1 n) 61 (0, 0)))
    (hxy : ∀ j, j < n → (2 ≤ x j ∧ x j ≤ 500) ∧ 2 ≤ y j ∧ y j ≤ 500) (hI : ∀ j, j < n → Idx C (x j) (qx j) ∧ Idx C (y j) (qy j) ∧ qx j ≤ 1000 ∧ qy j ≤ 1000)
    (hcl : ∀ i, i < n → ∀ j, j < n → sel (fun j => (x j : Int)) (fun j => (y j : Int)) r i j = true → ((qx i : Int) - 1 ≤ qx j ∧ (qx j : Int) ≤ qx i + 1) ∧ (qy i : Int) - 1 ≤ qy j ∧ (qy j : Int) ≤ qy i + 1) :
    Calls Yba.prog 39 #[.pointer (some ⟨fb, 0, none⟩), .int .i64 t] w fun e w' => ∃ mb cl, e = .returned (.tuple #[]) ∧ Fd w' fb (CMv.upd (CMv.upd f 4 (.map (some mb))) 8 (.int .i64 t)) ∧ CMv.Walks t w' wb we n n cb (fun j => (x j : Int)) (fun j => (y j : Int)) ∧
      w'.heap[nb]? = some (.cells cl 61 (0, 0)) ∧ (∀ j, j < n → ∃ v, cl[j]? = some v ∧ w'.ownsRow w.heap.size 21 1 v (ms (fun j => (x j : Int)) (fun j => (y j : Int)) r j n).length (row (ms (fun j => (x j : Int)) (fun j => (y j : Int)) r j n))) ∧ CMv.Ch (Gat fb wb we nb) w w' := by
  have stf := st_float
  have mk := make79 n (by omega)
  have hwl := hF.lt
  have hnl := CMv.heap_lt hN
  have c0 : w.cell? ⟨fb, 0, none⟩ = some (.slice (some ⟨sb, 0, none⟩) n n) := by rw [← f0]; exact hF.cell 0 (by decide)
  have HAT : Hid (∀ (j : Nat) (w' : World), j < n → CMv.Cfg w' cb → we ≤ w'.heap.size → CMv.Walks t w' wb we n n cb (fun j => (x j : Int)) (fun j => (y j : Int)) → Fd w' fb f → Calls Yba.prog 40 #[.pointer (some ⟨fb, 0, none⟩), .int .i64 j, .int .i64 t] w' fun e w'' => e = .returned (.agg #[.float .f64 (fI (x j)), .float .f64 (fI (y j))]) ∧ CMv.Walks t w'' wb we n n cb (fun j => (x j : Int)) (fun j => (y j : Int)) ∧ CMv.Ch (fun k => wb ≤ k ∧ k < we) w' w'') := fun j w' hj a1 a2 a3 ⟨cf, b1, b2, b3⟩ =>
    CMv.at_field fb wb we n cb j cf (fun j => (x j : Int)) (fun j => (y j : Int)) t w' h0 ht hj a1 hcb a2 a3 (fun j hj => by have := hxy j hj; omega) b1 (by rw [b3 2 (by decide), f2]) hfb
  go_enter Yba.func39, Yba.ntmps39
  go_wp2
  obtain ⟨W, hW0⟩ : ∃ W, W = w.alloc (.cells (zer (.agg #[.float .f64 0, .float .f64 0]) 2 n) 100 (0, 0)) := ⟨_, rfl⟩
  have hWo : ∀ q, q < w.heap.size → W.heap[q]? = w.heap[q]? := fun q hq => by rw [hW0]; exact heap_alloc_old w _ hq
  have hWP : Pts W w.heap.size n 0 (fun j => (x j : Int)) (fun j => (y j : Int)) := ⟨_, by rw [hW0]; exact heap_alloc_new w _, zer_size _ _ _, fun j hj => by omega⟩
  have hWC : CMv.Ch (fun k => wb ≤ k ∧ k < we) w W := by rw [hW0]; exact (CMv.Ch.refl _ w).alloc _
  have hWW := hW.at (w' := W) (fun q _ hq => hWo q (by omega))
  have hWF := hF.at (hWo fb hwl)
  rw [← hW0]
  obtain ⟨pb, hpb⟩ : ∃ pb, pb = w.heap.size := ⟨_, rfl⟩
  rw [← hpb] at hWP ⊢
  have HPB : Hid (pb = w.heap.size) := hpb
  have hnp : nb < pb := by omega
  clear hW0 hpb mk c0 hWo
  go_loopw [5, 15] (fun _ s15 wr => ∃ m : Nat, s15 = .int .i64 m ∧ m ≤ n ∧ Pts wr pb n m (fun j => (x j : Int)) (fun j => (y j : Int)) ∧ CMv.Walks t wr wb we n n cb (fun j => (x j : Int)) (fun j => (y j : Int)) ∧ Fd wr fb f ∧ CMv.Ch (fun k => wb ≤ k ∧ k < we) w wr) (fun _ s15 _ => n - (intOf s15).toNat)
  case atStart => exact ⟨0, rfl, Nat.zero_le _, hWP, hWW, hWF, hWC⟩
  case round =>
    obtain ⟨m, rfl, hm, hPt, hWk, hFd, hC⟩ := hrel
    clear hWP hWW hWF hWC
    have hcw : CMv.Cfg wr cb := hc.at (hC.block cb hc.lt (by omega))
    by_cases hlt : m < n
    · have HC : Hid (Calls Yba.prog 40 #[.pointer (some ⟨fb, 0, none⟩), .int .i64 m, .int .i64 t] wr fun e w'' => e = .returned (.agg #[.float .f64 (fI (x m)), .float .f64 (fI (y m))]) ∧ CMv.Walks t w'' wb we n n cb (fun j => (x j : Int)) (fun j => (y j : Int)) ∧ CMv.Ch (fun k => wb ≤ k ∧ k < we) wr w'') := HAT.out m wr hlt hcw (by have := hC.size; have := HPB.out; omega) hWk hFd
      have k1 : (m : Int) < (n : Int) := by omega
      have HPT : Hid (Pts wr pb n m (fun j => (x j : Int)) (fun j => (y j : Int))) := hPt
      clear hPt
      go_wp2_with fail
      refine HC.out.mono ?_
      rintro e w2 ⟨rfl, hW2, hC2⟩
      have hP2 : Pts w2 pb n m (fun j => (x j : Int)) (fun j => (y j : Int)) := by obtain ⟨cu, a1, a2⟩ := HPT.out; exact ⟨cu, hC2.at a1 (by omega), a2⟩
      have hnx := hP2.next hlt
      obtain ⟨cu, hcu, hcs, hcc⟩ := hP2
      have s0 : w2.cell? ⟨pb, m * 2, none⟩ = some cu[m * 2] := by rw [cell_of_row _ _ _ _ _ _ hcu]; exact Array.getElem?_eq_getElem (by omega)
      have s1 : w2.cell? ⟨pb, m * 2 + 1, none⟩ = some cu[m * 2 + 1] := by rw [cell_of_row _ _ _ _ _ _ hcu]; exact Array.getElem?_eq_getElem (by omega)
      have g0 : w2.frozen? ⟨pb, m * 2, none⟩ = false := frozen_of_row _ _ _ _ _ hcu
      have g1 : w2.frozen? ⟨pb, m * 2 + 1, none⟩ = false := frozen_of_row _ _ _ _ _ hcu
      generalize cu[m * 2] = z0 at s0
      generalize cu[m * 2 + 1] = z1 at s1
      have HNX : Hid (Pts ((w2.setCell ⟨pb, m * 2, none⟩ (.float .f64 (fI (x m)))).setCell ⟨pb, m * 2 + 1, none⟩ (.float .f64 (fI (y m)))) pb n (m + 1) (fun j => (x j : Int)) (fun j => (y j : Int))) := hnx
      have hCh : CMv.Ch (fun k => k = pb) w2 ((w2.setCell ⟨pb, m * 2, none⟩ (.float .f64 (fI (x m)))).setCell ⟨pb, m * 2 + 1, none⟩ (.float .f64 (fI (y m)))) := ((CMv.Ch.refl (fun k => k = pb) w2).setCell pb _ _ (fun _ => rfl)).setCell pb _ _ (fun _ => rfl)
      have HCH : Hid (CMv.Ch (fun k => k = pb) w2 ((w2.setCell ⟨pb, m * 2, none⟩ (.float .f64 (fI (x m)))).setCell ⟨pb, m * 2 + 1, none⟩ (.float .f64 (fI (y m))))) := hCh
      clear hnx hcu hcs hcc hCh
      go_wp2_with fail
      go_roundw
      case rel =>
        have hch := HCH.out
        have hsz : w.heap.size ≤ w2.heap.size := Nat.le_trans hC.size hC2.size
        have hpb := HPB.out
        refine ⟨m + 1, by go_num, by omega, HNX.out, hW2.at (fun q _ hq => hch.block q (by omega) (by omega)), hFd.at ((hch.block fb (by omega) (by omega)).trans (hC2.block fb hFd.lt (by omega))), ?_⟩
        exact ((hC.trans hC2).setCell pb _ _ (fun h => by omega)).setCell pb _ _ (fun h => by omega)
      case measure => simp [intOf]; omega
    · obtain rfl : m = n := by omega
      have hsz := hC.size
      have hpbe : w.heap.size ≤ pb := Nat.le_of_eq HPB.out.symm
      have hFC : ∃ cf, wr.heap[fb]? = some (.cells cf 96 (0, 0)) ∧ cf.size = 12 ∧ ∀ i, i < 12 → cf[i]? = some (f i) := hFd
      obtain ⟨cf, hcf1, hcf2, hcf3⟩ := hFC
      have hcellP : ∀ w' : World, wr.grownBy w' (some fb) → ∀ j, j < m → w'.cell? ⟨pb, j * 2, none⟩ = some (.float .f64 (fI (x j))) ∧ w'.cell? ⟨pb, j * 2 + 1, none⟩ = some (.float .f64 (fI (y j))) := fun w' hg j hj => by
        obtain ⟨cu, a1, _, a3⟩ := hPt
        exact ⟨hg.cell ((cell_of_row _ _ _ _ _ _ a1).trans (a3 j hj).1) (by simp; omega), hg.cell ((cell_of_row _ _ _ _ _ _ a1).trans (a3 j hj).2) (by simp; omega)⟩
      have HB : Hid (Calls Yba.prog 42 #[.pointer (some ⟨fb, 3, none⟩), .slice (some ⟨pb, 0, none⟩) m m] wr fun e w'' => ∃ N key val, e = .returned (.tuple #[]) ∧ w''.heap[fb]? = some (.cells (cf.setIfInBounds 4 (.map (some wr.heap.size))) 96 (0, 0)) ∧ Bk w'' wr.heap.size (wr.heap.size + 1) m (fun j => ((qx j : Int), (qy j : Int))) N key val ∧ wr.grownBy w'' (some fb)) := build_any fb pb m m C x y qx qy cf wr hn hcf1 hcf2 ((hcf3 3 (by decide)).trans (by rw [f3])) ((hcf3 4 (by decide)).trans (by rw [f4])) (by omega) (hcellP wr (CSort.grown_refl _ _)) hI
      have HS : Hid (∀ (j mb base N : Nat) (key : Nat → Int × Int) (val : Nat → Value) (cur' : Array Value) (w' : World), j < m → (∀ j, j < m → w'.cell? ⟨pb, j * 2, none⟩ = some (.float .f64 (fI (x j))) ∧ w'.cell? ⟨pb, j * 2 + 1, none⟩ = some (.float .f64 (fI (y j)))) → w'.heap[fb]? = some (.cells cur' 96 (0, 0)) → cur'[3]? = some (.float .f64 C) → cur'[4]? = some (.map (some mb)) → Bk w' mb base m (fun j => ((qx j : Int), (qy j : Int))) N key val →
          Calls Yba.prog 43 #[.pointer (some ⟨fb, 3, none⟩), .slice (some ⟨pb, 0, none⟩) m m, .int .i64 j, .float .f64 (fI r), .slice none 0 0] w' fun e w'' => ∃ v, e = .returned v ∧ w''.ownsRow w'.heap.size 21 1 v (ms (fun j => (x j : Int)) (fun j => (y j : Int)) r j m).length (row (ms (fun j => (x j : Int)) (fun j => (y j : Int)) r j m)) ∧ w'.grownBy w'' none) := fun j mb base N key val cur' w' hj hg hF e3 e4 hBk =>
        search_any fb pb m m C mb base N x y qx qy key val cur' j r w' hn hj hr hF e3 e4 (fun k hk => ⟨hg k hk, by have := hxy k hk; omega⟩) hI hBk (hcl j hj)
      have HCF : Hid (cf.size = 12 ∧ ∀ i, i < 12 → cf[i]? = some (f i)) := ⟨hcf2, hcf3⟩
      have HF : Hid (f 3 = .float .f64 C ∧ f 7 = .float .f64 (fI r) ∧ f 9 = .slice (some ⟨nb, 0, none⟩) m m) := ⟨f3, f7, f9⟩
      have HPT : Hid (Pts wr pb m m (fun j => (x j : Int)) (fun j => (y j : Int))) := hPt
      clear hcellP hcl hI hxy HAT hFd hcf2 hcf3 f0 f2 f3 f4 f7 f9 hPt
      go_wp2_with (go_at_call 42; refine HB.out.mono ?_; rintro e w1 ⟨N, key, val, rfl, hF1, hBk, hg1⟩; have hx9 : w1.cell? ⟨fb, 9, none⟩ = some (.slice (some ⟨nb, 0, none⟩) m m) := (cell_of_row _ _ _ _ _ _ hF1).trans ((Array.getElem?_setIfInBounds_ne (by omega)).trans ((HCF.out.2 9 (by decide)).trans (by rw [HF.out.2.2]))))
      obtain ⟨hcf2, hcf3⟩ := HCF.out
      obtain ⟨f3, f7, f9⟩ := HF.out
      have hFd1 : Fd w1 fb (CMv.upd f 4 (.map (some wr.heap.size))) := ⟨_, hF1, by simpa using hcf2, fun i hi => by
        unfold CMv.upd
        by_cases e : i = 4
        · subst e
          rw [if_pos rfl, Array.getElem?_setIfInBounds_self_of_lt (by omega)]
        · rw [if_neg e, Array.getElem?_setIfInBounds_ne (by omega)]
          exact hcf3 i hi⟩
      have hW1 : CMv.Walks t w1 wb we m m cb (fun j => (x j : Int)) (fun j => (y j : Int)) := hWk.at (fun q _ hq => hg1.block q (by omega) (by simp; omega))
      have hN1 : w1.heap[nb]? = some (.cells (zer (.slice none 0 0) 1 m) 61 (0, 0)) := (hg1.block nb (by omega) (by simp; omega)).trans (hC.at hN (by omega))
      have hC1 : CMv.Ch (Gat fb wb we nb) w w1 := (hC.mono (fun k hk => .inr (.inl hk))).grown hg1 (fun k e _ => by cases e; exact .inl rfl)
      obtain ⟨mb, hmb⟩ : ∃ mb, mb = wr.heap.size := ⟨_, rfl⟩
      rw [← hmb] at hFd1 hBk
      have HMB : Hid (mb = wr.heap.size) := hmb
      obtain ⟨f1, hf1⟩ : ∃ f1, f1 = CMv.upd f 4 (.map (some mb)) := ⟨_, rfl⟩
      rw [← hf1] at hFd1
      have F3 : f1 3 = .float .f64 C := by rw [hf1, ← f3]; rfl
      have F4 : f1 4 = .map (some mb) := by rw [hf1]; rfl
      have F7 : f1 7 = .float .f64 (fI r) := by rw [hf1, ← f7]; rfl
      have F9 : f1 9 = .slice (some ⟨nb, 0, none⟩) m m := by rw [hf1, ← f9]; rfl
      have HF1 : Hid (f1 = CMv.upd f 4 (.map (some mb))) := hf1
      have hs1 : mb ≤ w1.heap.size := by rw [hmb]; exact hg1.size
      have hpbl : pb < mb := by obtain ⟨cu, a1, _⟩ := HPT.out; have := CMv.heap_lt a1; omega
      have hmbp : pb ≤ mb := by omega
      clear hf1 hmb hx9 hF1 HB hWk hcf1 hcf2 hcf3 f3 f7 f9
      obtain ⟨u0, hu0⟩ : ∃ u0, u0 = wr := ⟨_, rfl⟩
      subst hu0
      go_loopw [6, 36] (fun _ s wr2 => ∃ (h : Nat) (cl : Array Value), s = .int .i64 h ∧ h ≤ m ∧ Fd wr2 fb f1 ∧ wr2.heap[nb]? = some (.cells cl 61 (0, 0)) ∧ cl.size = m ∧ (∀ j, j < h → ∃ v, cl[j]? = some v ∧ wr2.ownsRow w.heap.size 21 1 v (ms (fun j => (x j : Int)) (fun j => (y j : Int)) r j m).length (row (ms (fun j => (x j : Int)) (fun j => (y j : Int)) r j m))) ∧ (∀ j, h ≤ j → j < m → cl[j]? = some (.slice none 0 0)) ∧ w1.grownBy wr2 (some nb)) (fun _ s _ => m - (intOf s).toNat)
      case atStart => exact ⟨0, _, rfl, Nat.zero_le _, hFd1, hN1, by rw [zer_size]; omega, fun j hj => by omega, fun j _ hj => zer_nil m j hj, CSort.grown_refl _ _⟩
      case round =>
        obtain ⟨h, cl, rfl, hh, hFr, hNr, hcl, hrows, hnil, hg⟩ := hrel
        clear hFd1 hN1
        have e9 : wr.cell? ⟨fb, 9, none⟩ = some (.slice (some ⟨nb, 0, none⟩) m m) := by rw [← F9]; exact hFr.cell 9 (by decide)
        have e7 : wr.cell? ⟨fb, 7, none⟩ = some (.float .f64 (fI r)) := by rw [← F7]; exact hFr.cell 7 (by decide)
        have hsr : w1.heap.size ≤ wr.heap.size := hg.size
        by_cases hlt : h < m
        · have en : wr.cell? ⟨nb, h, none⟩ = some (.slice none 0 0) := by rw [cell_of_row _ _ _ _ _ _ hNr]; exact hnil h (Nat.le_refl _) hlt
          have hPd : ∀ j, j < m → wr.drew.cell? ⟨pb, j * 2, none⟩ = some (.float .f64 (fI (x j))) ∧ wr.drew.cell? ⟨pb, j * 2 + 1, none⟩ = some (.float .f64 (fI (y j))) := fun j hj => by
            obtain ⟨cu, a1, _, a3⟩ := HPT.out
            exact ⟨hg.cell (hg1.cell ((cell_of_row _ _ _ _ _ _ a1).trans (a3 j hj).1) (by simp; omega)) (by simp; omega), hg.cell (hg1.cell ((cell_of_row _ _ _ _ _ _ a1).trans (a3 j hj).2) (by simp; omega)) (by simp; omega)⟩
          have hBd := (hBk.kept (CSort.grown_drewN hg 1) (fun g e => by cases e; exact ⟨by omega, .inl (by omega)⟩))
          have hFr' := hFr
          obtain ⟨cf, b1, b2, b3⟩ := hFr'
          have HCall := HS.out h mb (mb + 1) N key val cf wr.drew hlt hPd b1 ((b3 3 (by decide)).trans (by rw [F3])) ((b3 4 (by decide)).trans (by rw [F4])) hBd
          obtain ⟨RR, hRR⟩ : ∃ RR, RR = fI r := ⟨_, rfl⟩
          rw [← hRR] at HCall e7
          clear hRR
          obtain ⟨ML, hML⟩ : ∃ ML, ML = ms (fun j => (x j : Int)) (fun j => (y j : Int)) r h m := ⟨_, rfl⟩
          rw [← hML] at HCall
          have HML : Hid (ML = ms (fun j => (x j : Int)) (fun j => (y j : Int)) r h m) := hML
          have HC : Hid (Calls Yba.prog 43 #[.pointer (some ⟨fb, 3, none⟩), .slice (some ⟨pb, 0, none⟩) m m, .int .i64 h, .float .f64 RR, .slice none 0 0] wr.drew fun e w'' => ∃ v, e = .returned v ∧ w''.ownsRow wr.heap.size 21 1 v ML.length (row ML) ∧ wr.drew.grownBy w'' none) := HCall
          have HROWS : Hid (∀ j, j < h → ∃ v, cl[j]? = some v ∧ wr.ownsRow w.heap.size 21 1 v (ms (fun j => (x j : Int)) (fun j => (y j : Int)) r j m).length (row (ms (fun j => (x j : Int)) (fun j => (y j : Int)) r j m))) := hrows
          have HNIL : Hid (∀ j, h ≤ j → j < m → cl[j]? = some (.slice none 0 0)) := hnil
          clear HCall hrows hML hBd hPd b1 b2 b3 hnil F3 F4
          have q1 : (h : Int) < (m : Int) := by omega
          go_wp2
          have hS0 : wr.drew.cell? ⟨fb, 9, none⟩ = some (.slice (some ⟨nb, 0, none⟩) m m) ∧ wr.drew.cell? ⟨fb, 7, none⟩ = some (.float .f64 RR) := ⟨e9, e7⟩
          refine wp_region_held_drew (S := fun w' => w'.cell? ⟨fb, 9, none⟩ = some (.slice (some ⟨nb, 0, none⟩) m m) ∧ w'.cell? ⟨fb, 7, none⟩ = some (.float .f64 RR)) (by kernel_rfl) hS0 (fun hHeld => ?_)
          refine wpAnyH_take (i := 0) (v := .pointer (some ⟨fb, 0, none⟩)) rfl (by kernel_rfl) (by kernel_rfl) (by kernel_rfl) (fun _ _ _ h => h) (Or.inl ⟨by rfl, fun w hSw => by obtain ⟨hS1, hS2⟩ := hSw; go_simp⟩) (by assumption) ?_
          simp only [Act.put, List.setIfInBounds_toArray, List.set_cons_zero, List.set_cons_succ]
          refine wpAnyH_take (i := 1) (v := .pointer (some ⟨fb, 0, none⟩)) rfl (by kernel_rfl) (by kernel_rfl) (by kernel_rfl) (fun _ _ _ h => h) (Or.inl ⟨by rfl, fun w hSw => by obtain ⟨hS1, hS2⟩ := hSw; go_simp⟩) (by assumption) ?_
          simp only [Act.put, List.setIfInBounds_toArray, List.set_cons_zero, List.set_cons_succ]
          refine wpAnyH_take (i := 2) (v := .pointer (some ⟨fb, 9, none⟩)) rfl (by kernel_rfl) (by kernel_rfl) (by kernel_rfl) (fun _ _ _ h => h) (Or.inl ⟨by rfl, fun w hSw => by obtain ⟨hS1, hS2⟩ := hSw; go_simp⟩) (by assumption) ?_
          simp only [Act.put, List.setIfInBounds_toArray, List.set_cons_zero, List.set_cons_succ]
          refine wpAnyH_take (i := 3) (v := .slice (some ⟨nb, 0, none⟩) m m) rfl (by kernel_rfl) (by kernel_rfl) (by kernel_rfl) (fun _ _ _ h => h) (Or.inl ⟨by rfl, fun w hSw => by obtain ⟨hS1, hS2⟩ := hSw; go_simp⟩) (by assumption) ?_
          simp only [Act.put, List.setIfInBounds_toArray, List.set_cons_zero, List.set_cons_succ]
          refine wpAnyH_take (i := 4) (v := .int .i64 h) rfl (by kernel_rfl) (by kernel_rfl) (by kernel_rfl) (fun _ _ _ h => h) (Or.inl ⟨by rfl, fun w hSw => by obtain ⟨hS1, hS2⟩ := hSw; go_simp⟩) (by assumption) ?_
          simp only [Act.put, List.setIfInBounds_toArray, List.set_cons_zero, List.set_cons_succ]
          refine wpAnyH_take (i := 5) (v := .pointer (some ⟨fb, 0, none⟩)) rfl (by kernel_rfl) (by kernel_rfl) (by kernel_rfl) (fun _ _ _ h => h) (Or.inl ⟨by rfl, fun w hSw => by obtain ⟨hS1, hS2⟩ := hSw; go_simp⟩) (by assumption) ?_
          simp only [Act.put, List.setIfInBounds_toArray, List.set_cons_zero, List.set_cons_succ]
          refine wpAnyH_take (i := 6) (v := .pointer (some ⟨fb, 0, none⟩)) rfl (by kernel_rfl) (by kernel_rfl) (by kernel_rfl) (fun _ _ _ h => h) (Or.inl ⟨by rfl, fun w hSw => by obtain ⟨hS1, hS2⟩ := hSw; go_simp⟩) (by assumption) ?_
          simp only [Act.put, List.setIfInBounds_toArray, List.set_cons_zero, List.set_cons_succ]
          refine wpAnyH_take (i := 7) (v := .pointer (some ⟨fb, 3, none⟩)) rfl (by kernel_rfl) (by kernel_rfl) (by kernel_rfl) (fun _ _ _ h => h) (Or.inl ⟨by rfl, fun w hSw => by obtain ⟨hS1, hS2⟩ := hSw; go_simp⟩) (by assumption) ?_
          simp only [Act.put, List.setIfInBounds_toArray, List.set_cons_zero, List.set_cons_succ]
          refine wpAnyH_take (i := 8) (v := .slice (some ⟨pb, 0, none⟩) m m) rfl (by kernel_rfl) (by kernel_rfl) (by kernel_rfl) (fun _ _ _ h => h) (Or.inl ⟨by rfl, fun w hSw => by obtain ⟨hS1, hS2⟩ := hSw; go_simp⟩) (by assumption) ?_
          simp only [Act.put, List.setIfInBounds_toArray, List.set_cons_zero, List.set_cons_succ]
          refine wpAnyH_take (i := 9) (v := .int .i64 h) rfl (by kernel_rfl) (by kernel_rfl) (by kernel_rfl) (fun _ _ _ h => h) (Or.inl ⟨by rfl, fun w hSw => by obtain ⟨hS1, hS2⟩ := hSw; go_simp⟩) (by assumption) ?_
          simp only [Act.put, List.setIfInBounds_toArray, List.set_cons_zero, List.set_cons_succ]
          refine wpAnyH_take (i := 10) (v := .pointer (some ⟨fb, 0, none⟩)) rfl (by kernel_rfl) (by kernel_rfl) (by kernel_rfl) (fun _ _ _ h => h) (Or.inl ⟨by rfl, fun w hSw => by obtain ⟨hS1, hS2⟩ := hSw; go_simp⟩) (by assumption) ?_
          simp only [Act.put, List.setIfInBounds_toArray, List.set_cons_zero, List.set_cons_succ]
          refine wpAnyH_take (i := 11) (v := .pointer (some ⟨fb, 0, none⟩)) rfl (by kernel_rfl) (by kernel_rfl) (by kernel_rfl) (fun _ _ _ h => h) (Or.inl ⟨by rfl, fun w hSw => by obtain ⟨hS1, hS2⟩ := hSw; go_simp⟩) (by assumption) ?_
          simp only [Act.put, List.setIfInBounds_toArray, List.set_cons_zero, List.set_cons_succ]
          refine wpAnyH_take (i := 12) (v := .pointer (some ⟨fb, 7, none⟩)) rfl (by kernel_rfl) (by kernel_rfl) (by kernel_rfl) (fun _ _ _ h => h) (Or.inl ⟨by rfl, fun w hSw => by obtain ⟨hS1, hS2⟩ := hSw; go_simp⟩) (by assumption) ?_
          simp only [Act.put, List.setIfInBounds_toArray, List.set_cons_zero, List.set_cons_succ]
          refine wpAnyH_take (i := 13) (v := .float .f64 RR) rfl (by kernel_rfl) (by kernel_rfl) (by kernel_rfl) (fun _ _ _ h => h) (Or.inl ⟨by rfl, fun w hSw => by obtain ⟨hS1, hS2⟩ := hSw; go_simp⟩) (by assumption) ?_
          simp only [Act.put, List.setIfInBounds_toArray, List.set_cons_zero, List.set_cons_succ]
          refine wpAnyH_take (i := 14) (v := .pointer (some ⟨fb, 0, none⟩)) rfl (by kernel_rfl) (by kernel_rfl) (by kernel_rfl) (fun _ _ _ h => h) (Or.inl ⟨by rfl, fun w hSw => by obtain ⟨hS1, hS2⟩ := hSw; go_simp⟩) (by assumption) ?_
          simp only [Act.put, List.setIfInBounds_toArray, List.set_cons_zero, List.set_cons_succ]
          refine wpAnyH_take (i := 15) (v := .pointer (some ⟨fb, 0, none⟩)) rfl (by kernel_rfl) (by kernel_rfl) (by kernel_rfl) (fun _ _ _ h => h) (Or.inl ⟨by rfl, fun w hSw => by obtain ⟨hS1, hS2⟩ := hSw; go_simp⟩) (by assumption) ?_
          simp only [Act.put, List.setIfInBounds_toArray, List.set_cons_zero, List.set_cons_succ]
          refine wpAnyH_take (i := 16) (v := .pointer (some ⟨fb, 9, none⟩)) rfl (by kernel_rfl) (by kernel_rfl) (by kernel_rfl) (fun _ _ _ h => h) (Or.inl ⟨by rfl, fun w hSw => by obtain ⟨hS1, hS2⟩ := hSw; go_simp⟩) (by assumption) ?_
          simp only [Act.put, List.setIfInBounds_toArray, List.set_cons_zero, List.set_cons_succ]
          refine wpAnyH_take (i := 17) (v := .slice (some ⟨nb, 0, none⟩) m m) rfl (by kernel_rfl) (by kernel_rfl) (by kernel_rfl) (fun _ _ _ h => h) (Or.inl ⟨by rfl, fun w hSw => by obtain ⟨hS1, hS2⟩ := hSw; go_simp⟩) (by assumption) ?_
          simp only [Act.put, List.setIfInBounds_toArray, List.set_cons_zero, List.set_cons_succ]
          refine wpAnyH_take (i := 18) (v := .int .i64 h) rfl (by kernel_rfl) (by kernel_rfl) (by kernel_rfl) (fun _ _ _ h => h) (Or.inl ⟨by rfl, fun w hSw => by obtain ⟨hS1, hS2⟩ := hSw; go_simp⟩) (by assumption) ?_
          simp only [Act.put, List.setIfInBounds_toArray, List.set_cons_zero, List.set_cons_succ]
          refine wpAnyH_take (i := 19) (v := .pointer (some ⟨nb, h, none⟩)) rfl (by kernel_rfl) (by kernel_rfl) (by kernel_rfl) (fun _ _ _ h => h) (Or.inl ⟨by rfl, fun w hSw => by obtain ⟨hS1, hS2⟩ := hSw; go_simp⟩) (by assumption) ?_
          simp only [Act.put, List.setIfInBounds_toArray, List.set_cons_zero, List.set_cons_succ]
          refine wpAnyH_ready (rs := [20]) (by kernel_rfl) (by simp) ?_
          refine AllReadyH.cons rfl (fun K hK => ?_) AllReadyH.nil
          go_simp
          refine hK.out _ _ hS0 (fun hHeld2 => ?_)
          clear hK K
          try simp only [Act.put, List.setIfInBounds_toArray, List.set_cons_zero, List.set_cons_succ]
          refine wpAnyH_take (i := 21) (v := .slice none 0 0) rfl (by kernel_rfl) (by kernel_rfl) (by kernel_rfl) (fun _ _ _ h => h) (Or.inl ⟨by rfl, fun w hSw => by obtain ⟨hS1, hS2⟩ := hSw; go_simp⟩) (by assumption) ?_
          simp only [Act.put, List.setIfInBounds_toArray, List.set_cons_zero, List.set_cons_succ]
          refine wpAnyH_ready (rs := [22]) (by kernel_rfl) (by simp) ?_
          refine AllReadyH.cons rfl (fun K hK => ?_) AllReadyH.nil
          go_simp
          refine HC.out.mono ?_
          rintro e w2 ⟨v, rfl, hown, hg2⟩
          obtain ⟨va, vl, vc, rfl⟩ := own_slice hown
          have hk3 : w2.cell? ⟨fb, 9, none⟩ = some (.slice (some ⟨nb, 0, none⟩) m m) ∧ w2.cell? ⟨fb, 7, none⟩ = some (.float .f64 RR) := ⟨hg2.cell e9 (by simp), hg2.cell e7 (by simp)⟩
          have hLb2 : w2.heap[nb]? = some (.cells cl 61 (0, 0)) := (hg2.block nb (by show nb < wr.heap.size; omega) (by simp)).trans hNr
          have hfl2 : w2.frozen? ⟨nb, h, none⟩ = false := frozen_of_row _ _ _ _ _ hLb2
          have kn := hg2.cell en (by simp)
          refine hK.out _ _ hk3 (fun hHeld3 => ?_)
          clear hK K
          try simp only [Act.put, List.setIfInBounds_toArray, List.set_cons_zero, List.set_cons_succ]
          refine wpAnyH_take (i := 23) (v := .pointer (some ⟨nb, h, none⟩)) rfl (by kernel_rfl) (by kernel_rfl) (by kernel_rfl) (fun _ _ _ h => h) (Or.inl ⟨by rfl, fun w hSw => by obtain ⟨hS1, hS2⟩ := hSw; go_simp⟩) (by assumption) ?_
          simp only [Act.put, List.setIfInBounds_toArray, List.set_cons_zero, List.set_cons_succ]
          refine wpAnyH_ready (rs := [24]) (by kernel_rfl) (by simp) ?_
          refine AllReadyH.cons rfl (fun K hK => ?_) AllReadyH.nil
          go_simp
          refine hK.out _ _ ⟨(CMv.cell_set _ _ _ _ _ _ (by omega)).trans hk3.1, (CMv.cell_set _ _ _ _ _ _ (by omega)).trans hk3.2⟩ (fun hHeld4 => ?_)
          clear hK K
          refine wpAnyH_done (by kernel_rfl) ?_ _
          have hnew : (w2.setCell ⟨nb, h, none⟩ (.slice va vl vc)).heap[nb]? = some (.cells (cl.setIfInBounds h (.slice va vl vc)) 61 (0, 0)) := heap_setCell_same w2 nb h cl 61 _ hLb2
          have hgs := CSort.grown_setCell (CSort.grown_refl w2 (some nb)) h (.slice va vl vc)
          have hFn : Fd (w2.setCell ⟨nb, h, none⟩ (.slice va vl vc)) fb f1 := (hFr.at (hg2.block fb (by show fb < wr.heap.size; omega) (by simp))).at (heap_setCell_other w2 ⟨nb, h, none⟩ fb _ (by show fb ≠ nb; omega))
          have hG2 : w1.grownBy (w2.setCell ⟨nb, h, none⟩ (.slice va vl vc)) (some nb) := by
            have a1 : w1.grownBy w2 (some nb) := CSort.grown_trans (CSort.grown_drewN hg 1) ⟨hg2.os, hg2.tape, hg2.output, hg2.size, fun k hk _ => hg2.block k hk (by simp)⟩
            exact CSort.grown_trans a1 hgs
          have hR2 : ∀ j, j < h + 1 → ∃ v, (cl.setIfInBounds h (.slice va vl vc))[j]? = some v ∧ (w2.setCell ⟨nb, h, none⟩ (.slice va vl vc)).ownsRow w.heap.size 21 1 v (ms (fun j => (x j : Int)) (fun j => (y j : Int)) r j m).length (row (ms (fun j => (x j : Int)) (fun j => (y j : Int)) r j m)) := fun j hj => by
            have keep : ∀ {v : Value} {l : List Nat}, w2.ownsRow w.heap.size 21 1 v l.length (row l) → (w2.setCell ⟨nb, h, none⟩ (.slice va vl vc)).ownsRow w.heap.size 21 1 v l.length (row l) := fun {v} {l} ho => ho.kept hgs (by
              cases e : v.ownBlock with
              | none => exact .inl rfl
              | some g => exact .inr (fun e2 => by have := (ho.lt g e).1; cases e2; omega))
            by_cases ej : j = h
            · subst ej
              refine ⟨_, Array.getElem?_setIfInBounds_self_of_lt (by omega), keep ?_⟩
              rw [← HML.out]
              exact owns_base hown (by omega)
            · obtain ⟨v, a1, a2⟩ := HROWS.out j (by omega)
              refine ⟨v, by rw [Array.getElem?_setIfInBounds_ne (by omega)]; exact a1, keep (a2.drew.kept hg2 (by cases e : v.ownBlock <;> simp))⟩
          have hN2 : ∀ j, h + 1 ≤ j → j < m → (cl.setIfInBounds h (.slice va vl vc))[j]? = some (.slice none 0 0) := fun j h1 h2 => by
            rw [Array.getElem?_setIfInBounds_ne (by omega)]
            exact HNIL.out j (by omega) h2
          go_wp2
          go_roundw
          case rel => exact ⟨h + 1, _, by go_num, by omega, hFn, hnew, by simpa using hcl, hR2, hN2, hG2⟩
          case measure => simp [intOf]; omega
        · have x8 := hFr.cell 8 (by decide)
          have y8 := hFr.frozen 8
          obtain rfl : h = m := by omega
          have HROWS : Hid (∀ j, j < h → ∃ v, cl[j]? = some v ∧ wr.ownsRow w.heap.size 21 1 v (ms (fun j => (x j : Int)) (fun j => (y j : Int)) r j h).length (row (ms (fun j => (x j : Int)) (fun j => (y j : Int)) r j h))) := hrows
          clear hrows hnil HS F3 F4 F7 F9
          go_wp2
          go_end0
          have hF8 := hFr.set 8 (.int .i64 t) (by decide)
          have hc8 : CMv.Ch (fun k => k = fb) wr (wr.setCell ⟨fb, 8, none⟩ (.int .i64 t)) := (CMv.Ch.refl (fun k => k = fb) wr).setCell fb _ _ (fun _ => rfl)
          have hg8 : wr.grownBy (wr.setCell ⟨fb, 8, none⟩ (.int .i64 t)) (some fb) := CSort.grown_setCell (CSort.grown_refl wr (some fb)) 8 _
          rw [HF1.out] at hF8
          refine ⟨mb, cl, rfl, hF8, ?_, ?_, fun j hj => ?_, ?_⟩
          · exact (hW1.at (fun q _ hq => hg.block q (by omega) (by simp; omega))).at (fun q _ hq => hc8.block q (by omega) (by omega))
          · exact hc8.at hNr (by omega)
          · obtain ⟨v, a1, a2⟩ := HROWS.out j hj
            exact ⟨v, a1, a2.kept hg8 (by
              cases e : v.ownBlock with
              | none => exact .inl rfl
              | some g => exact .inr (fun e2 => by have := (a2.lt g e).1; cases e2; omega))⟩
          · exact (hC1.grown hg (fun k e _ => by cases e; exact .inr (.inr rfl))).grown hg8 (fun k e _ => by cases e; exact .inl rfl)
end Go.Proofs.Ybulkyyu.CLaw
