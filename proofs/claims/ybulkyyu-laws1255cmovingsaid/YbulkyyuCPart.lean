/- partitionOrdered at int32. -/
import Derived.Test.YbulkyyuCHeap
import Derived.Test.YbulkyyuCInv
import Derived.Deep.CutBlock
namespace Go.Proofs.Ybulkyyu.CSort
open Go.RowKit Go.Sort

set_option maxRecDepth 100000 in
set_option maxHeartbeats 4000000 in
theorem part_any (g cap a b pv : Nat) (d : Array Int) (w : World) (h1 : a ≤ pv) (h2 : pv < b) (h3 : b ≤ d.size) (hd : d.size ≤ 4096) (hR : Row w g cap d) :
    Calls Yba.prog 81 #[.slice (some ⟨g, 0, none⟩) d.size cap, .int .i64 a, .int .i64 b, .int .i64 pv] w fun e w' => ∃ (mid : Nat) (ap : Bool) (d' : Array Int), e = .returned (.tuple #[.int .i64 mid, .bool ap]) ∧ Row w' g cap d' ∧ w.grownBy w' (some g) ∧
      a ≤ mid ∧ mid < b ∧ PermIn a b d d' ∧ (∀ t, a ≤ t → t < mid → ltInt d'[t]! d'[mid]! = true) ∧ (∀ t, mid < t → t < b → ltInt d'[t]! d'[mid]! = false) := by
  have hr0 := grown_refl w (some g)
  obtain ⟨u, hu⟩ : ∃ u, u = d[a]! := ⟨_, rfl⟩
  obtain ⟨p, hp⟩ : ∃ p, p = d[pv]! := ⟨_, rfl⟩
  have c1 := hR.cell a (by omega)
  have c2 := hR.cell pv (by omega)
  have f1 := hR.frozen a
  have f2 := hR.frozen pv
  rw [← hu] at c1
  rw [← hp] at c2
  have hS := hR.swap a pv
  have hi0 := Inv.start (fun x => ltInt x p) h1 h2 h3
  have hpp : (swp d a pv)[a]! = p := by
    by_cases e : a = pv
    · rw [← e, swp_right d a a (by omega), hp, e]
    · rw [swp_left d a pv (by omega) e, hp]
  rw [hpp] at hi0
  rw [← hu, ← hp] at hS
  have hgS := grown_setCell (grown_setCell hr0 a (.int .i32 p)) pv (.int .i32 u)
  clear hu hp hpp
  generalize swp d a pv = D0 at hS hi0
  obtain ⟨vv, hvv⟩ := cell?_setCell_some (w := w) (p := ⟨g, a, none⟩) (x := .int .i32 p) c2
  have g4 : (a : Int) < (d.size : Int) := by omega
  have g5 : (pv : Int) < (d.size : Int) := by omega
  obtain ⟨J, rfl⟩ : ∃ J, b = J + 1 := ⟨b - 1, by omega⟩
  rw [Nat.add_sub_cancel] at hi0
  go_enter Yba.func81, Yba.ntmps81
  go_wp2
  go_region
  replace hS := hS.drewN 1
  replace hgS := grown_drewN hgS 1
  obtain ⟨W, hW⟩ : ∃ W, W = ((w.setCell ⟨g, a, none⟩ (.int .i32 p)).setCell ⟨g, pv, none⟩ (.int .i32 u)).drewN 1 := ⟨_, rfl⟩
  rw [← hW] at hS hgS
  have hW2 : ((w.setCell ⟨g, a, none⟩ (.int .i32 p)).setCell ⟨g, pv, none⟩ (.int .i32 u)).drew = W := hW.symm
  rw [hW2]
  clear hW hW2 c1 c2 f1 f2 hvv hR
  go_upto_block 0 with fail
  go_cut [10] (fun s10 wx => ∃ i : Nat, s10 = .int .i64 i ∧ (a + 1) ≤ i ∧ Inv (fun x => ltInt x p) a (J + 1) p d D0 i J ∧ (i ≤ J → (fun x => ltInt x p) D0[i]! = false) ∧ Row wx g cap D0 ∧ w.grownBy wx (some g))
  case first =>
    go_wp2_with fail
    go_loopw [10] (fun s10 wx => ∃ i : Nat, s10 = .int .i64 i ∧ (a + 1) ≤ i ∧ Inv (fun x => ltInt x p) a (J + 1) p d D0 i J ∧ Row wx g cap D0 ∧ w.grownBy wx (some g)) (fun s10 _ => J + 1 - (intOf s10).toNat)
    case atStart => exact ⟨(a + 1), by go_num, Nat.le_refl _, hi0, hS, hgS⟩
    case round =>
      obtain ⟨i, rfl, hIi, hv, hRr, hgr⟩ := hrel
      have hai := hv.ai
      have hjb := hv.jb
      have hsz := hv.size
      have hbs := hv.bs
      by_cases hij : i ≤ J
      · obtain ⟨x, hx⟩ : ∃ x, x = D0[i]! := ⟨_, rfl⟩
        have c1 := hRr.cell i (by omega)
        have c2 := hRr.cell a (by omega)
        rw [← hx] at c1
        rw [hv.piv] at c2
        have HX : Hid (x = D0[i]!) := hx
        clear hx
        have g1 : (i : Int) ≤ (J : Int) := by omega
        have g2 : (0 : Int) ≤ (i : Int) := by omega
        have g3 : (i : Int) < (d.size : Int) := by omega
        have g4 : (a : Int) < (d.size : Int) := by omega
        by_cases hl : ltInt x p = true
        · go_wp2
          go_quiet ((go_at_call 79; exact Calls.quiet_of_same (less_any _ _ _)))
          go_wp2
          go_roundw
          case rel => exact ⟨i + 1, by go_num, by omega, hv.up hij (by rw [← HX.out]; simp [hl]), hRr.drewN _, grown_drewN hgr _⟩
          case measure => simp [intOf]; omega
        · have hl' : ltInt x p = false := by simpa using hl
          clear hl
          go_wp2
          go_quiet ((go_at_call 79; exact Calls.quiet_of_same (less_any _ _ _)))
          go_wp2
          go_meet
          case rel => exact ⟨i, rfl, hIi, hv, fun _ => by rw [← HX.out]; simp [hl'], hRr.drewN _, grown_drewN hgr _⟩
      · have hd1 : decide ((i : Int) ≤ (J : Int)) = false := decide_eq_false (by omega)
        go_wp2
        go_quiet ((go_at_call 79; exact Calls.quiet_of_same (less_any _ _ _)))
        go_wp2
        go_meet
        case rel => exact ⟨i, rfl, hIi, hv, fun h => absurd h hij, hRr.drewN _, grown_drewN hgr _⟩
  case rest =>
    obtain ⟨i1, rfl, hIi, hv1, hE1, hR1, hg1⟩ := hcut
    go_upto_block 2 with fail
    go_cut [11] (fun s11 wx => ∃ j : Nat, s11 = .int .i64 j ∧ Inv (fun x => ltInt x p) a (J + 1) p d D0 i1 j ∧ (i1 ≤ j → (fun x => ltInt x p) D0[j]! = true) ∧ j ≤ J ∧ Row wx g cap D0 ∧ w.grownBy wx (some g))
    case first =>
      go_wp2_with fail
      go_loopw [11] (fun s11 wx => ∃ j : Nat, s11 = .int .i64 j ∧ Inv (fun x => ltInt x p) a (J + 1) p d D0 i1 j ∧ j ≤ J ∧ Row wx g cap D0 ∧ w.grownBy wx (some g)) (fun s11 _ => (intOf s11).toNat)
      case atStart => exact ⟨J, by go_num, hv1, Nat.le_refl _, hR1, hg1⟩
      case round =>
        obtain ⟨j, rfl, hv, hjJ, hRr, hgr⟩ := hrel
        have hai := hv.ai
        have hjb := hv.jb
        have hsz := hv.size
        have hbs := hv.bs
        by_cases hij : i1 ≤ j
        · obtain ⟨j, rfl⟩ : ∃ j', j = j' + 1 := ⟨j - 1, by omega⟩
          obtain ⟨x, hx⟩ : ∃ x, x = D0[j + 1]! := ⟨_, rfl⟩
          have c1 := hRr.cell (j + 1) (by omega)
          have c2 := hRr.cell a (by omega)
          rw [← hx] at c1
          rw [hv.piv] at c2
          have HX : Hid (x = D0[j + 1]!) := hx
          clear hx
          have g1 : (i1 : Int) ≤ (j : Int) + 1 := by omega
          have g2 : (0 : Int) ≤ (j : Int) + 1 := by omega
          have g3 : (j : Int) + 1 < (d.size : Int) := by omega
          have g4 : (a : Int) < (d.size : Int) := by omega
          by_cases hl : ltInt x p = true
          · go_wp2
            go_quiet ((go_at_call 79; exact Calls.quiet_of_same (less_any _ _ _)))
            go_wp2
            go_meet
            case rel => exact ⟨j + 1, rfl, hv, fun _ => by rw [← HX.out]; simp [hl], hjJ, hRr.drewN _, grown_drewN hgr _⟩
          · have hl' : ltInt x p = false := by simpa using hl
            clear hl
            go_wp2
            go_quiet ((go_at_call 79; exact Calls.quiet_of_same (less_any _ _ _)))
            go_wp2
            go_roundw
            case rel => exact ⟨j, by go_num, hv.down hij (by rw [← HX.out]; simp [hl']), by omega, hRr.drewN _, grown_drewN hgr _⟩
            case measure => simp [intOf]
        · have hd1 : decide ((i1 : Int) ≤ (j : Int)) = false := decide_eq_false (by omega)
          go_wp2
          go_quiet ((go_at_call 79; exact Calls.quiet_of_same (less_any _ _ _)))
          go_wp2
          go_meet
          case rel => exact ⟨j, rfl, hv, fun h => absurd h hij, hjJ, hRr.drewN _, grown_drewN hgr _⟩
    case rest =>
      obtain ⟨j1, rfl, hv2, hE2, hj1, hR2, hg2⟩ := hcut
      have hbs := hv2.bs
      have hai := hv2.ai
      have hjb := hv2.jb
      have hsz := hv2.size
      have hij2 := hv2.ij
      by_cases hij : i1 ≤ j1
      · obtain ⟨j1, rfl⟩ : ∃ j', j1 = j' + 1 := ⟨j1 - 1, by omega⟩
        have hq1 := hE1 (by omega)
        have hq2 := hE2 hij
        obtain ⟨x, hx⟩ : ∃ x, x = D0[i1]! := ⟨_, rfl⟩
        obtain ⟨y, hy⟩ : ∃ y, y = D0[j1 + 1]! := ⟨_, rfl⟩
        have c1 := hR2.cell i1 (by omega)
        have c2 := hR2.cell (j1 + 1) (by omega)
        have f1 := hR2.frozen i1
        have f2 := hR2.frozen (j1 + 1)
        rw [← hx] at c1
        rw [← hy] at c2
        have HX : Hid (x = D0[i1]!) := hx
        have HY : Hid (y = D0[j1 + 1]!) := hy
        have HQ1 : Hid ((fun x => ltInt x p) D0[i1]! = false) := hq1
        have HQ2 : Hid ((fun x => ltInt x p) D0[j1 + 1]! = true) := hq2
        have hne : ¬ i1 = j1 + 1 := fun e => by rw [e, hq2] at hq1; cases hq1
        clear hx hy hq1 hq2 hE1 hE2
        have g1 : (i1 : Int) ≤ (j1 : Int) + 1 := by omega
        have g2 : (0 : Int) ≤ (j1 : Int) + 1 := by omega
        have g3 : (j1 : Int) + 1 < (d.size : Int) := by omega
        have g6 : (i1 : Int) < (d.size : Int) := by omega
        have hSw := hR2.swap i1 (j1 + 1)
        rw [← HX.out, ← HY.out] at hSw
        have hVw := hv2.swap hij HQ1.out HQ2.out
        go_wp2
        go_region
        all_goals go_wp2_with fail
        have hgw := grown_setCell (grown_setCell (grown_drewN hg2 1) i1 (.int .i32 y)) (j1 + 1) (.int .i32 x)
        clear c1 c2 f1 f2
        go_loopw [10, 11] (fun si sj wr => ∃ (i j : Nat) (D : Array Int), si = .int .i64 i ∧ sj = .int .i64 j ∧ Inv (fun x => ltInt x p) a (J + 1) p d D i j ∧ Row wr g cap D ∧ w.grownBy wr (some g)) (fun si sj _ => (intOf sj).toNat + 1 - (intOf si).toNat)
        case atStart => exact ⟨i1 + 1, j1, _, by go_num, by go_num, hVw, hSw, hgw⟩
        case round =>
          obtain ⟨I, K, D, rfl, rfl, hv0, hRD, hgD⟩ := hrel
          clear hSw hgw hVw hR2 hg2 hR1 hg1 hv2 hv1 hai hjb hsz hij2 hbs hij hS hgS hi0
          obtain ⟨wo, rfl⟩ : ∃ wo : World, wo = wr := ⟨_, rfl⟩
          go_upto_block 6 with fail
          go_cut [10] (fun s10 wx => ∃ i : Nat, s10 = .int .i64 i ∧ I ≤ i ∧ Inv (fun x => ltInt x p) a (J + 1) p d D i K ∧ (i ≤ K → (fun x => ltInt x p) D[i]! = false) ∧ Row wx g cap D ∧ w.grownBy wx (some g))
          case first =>
            go_wp2_with fail
            go_loopw [10] (fun s10 wx => ∃ i : Nat, s10 = .int .i64 i ∧ I ≤ i ∧ Inv (fun x => ltInt x p) a (J + 1) p d D i K ∧ Row wx g cap D ∧ w.grownBy wx (some g)) (fun s10 _ => K + 1 - (intOf s10).toNat)
            case atStart => exact ⟨I, by go_num, Nat.le_refl _, hv0, hRD, hgD⟩
            case round =>
              obtain ⟨i, rfl, hIi, hv, hRr, hgr⟩ := hrel
              have hai := hv.ai
              have hjb := hv.jb
              have hsz := hv.size
              have hbs := hv.bs
              by_cases hij : i ≤ K
              · obtain ⟨x, hx⟩ : ∃ x, x = D[i]! := ⟨_, rfl⟩
                have c1 := hRr.cell i (by omega)
                have c2 := hRr.cell a (by omega)
                rw [← hx] at c1
                rw [hv.piv] at c2
                have HX : Hid (x = D[i]!) := hx
                clear hx
                have g1 : (i : Int) ≤ (K : Int) := by omega
                have g2 : (0 : Int) ≤ (i : Int) := by omega
                have g3 : (i : Int) < (d.size : Int) := by omega
                have g4 : (a : Int) < (d.size : Int) := by omega
                by_cases hl : ltInt x p = true
                · go_wp2
                  go_quiet ((go_at_call 79; exact Calls.quiet_of_same (less_any _ _ _)))
                  go_wp2
                  go_roundw
                  case rel => exact ⟨i + 1, by go_num, by omega, hv.up hij (by rw [← HX.out]; simp [hl]), hRr.drewN _, grown_drewN hgr _⟩
                  case measure => simp [intOf]; omega
                · have hl' : ltInt x p = false := by simpa using hl
                  clear hl
                  go_wp2
                  go_quiet ((go_at_call 79; exact Calls.quiet_of_same (less_any _ _ _)))
                  go_wp2
                  go_meet
                  case rel => exact ⟨i, rfl, hIi, hv, fun _ => by rw [← HX.out]; simp [hl'], hRr.drewN _, grown_drewN hgr _⟩
              · have hd1 : decide ((i : Int) ≤ (K : Int)) = false := decide_eq_false (by omega)
                go_wp2
                go_quiet ((go_at_call 79; exact Calls.quiet_of_same (less_any _ _ _)))
                go_wp2
                go_meet
                case rel => exact ⟨i, rfl, hIi, hv, fun h => absurd h hij, hRr.drewN _, grown_drewN hgr _⟩
          case rest =>
            obtain ⟨i2, rfl, hIi, hv1, hE1, hR1, hg1⟩ := hcut
            go_upto_block 8 with fail
            go_cut [11] (fun s11 wx => ∃ j : Nat, s11 = .int .i64 j ∧ Inv (fun x => ltInt x p) a (J + 1) p d D i2 j ∧ (i2 ≤ j → (fun x => ltInt x p) D[j]! = true) ∧ j ≤ K ∧ Row wx g cap D ∧ w.grownBy wx (some g))
            case first =>
              go_wp2_with fail
              go_loopw [11] (fun s11 wx => ∃ j : Nat, s11 = .int .i64 j ∧ Inv (fun x => ltInt x p) a (J + 1) p d D i2 j ∧ j ≤ K ∧ Row wx g cap D ∧ w.grownBy wx (some g)) (fun s11 _ => (intOf s11).toNat)
              case atStart => exact ⟨K, by go_num, hv1, Nat.le_refl _, hR1, hg1⟩
              case round =>
                obtain ⟨j, rfl, hv, hjJ, hRr, hgr⟩ := hrel
                have hai := hv.ai
                have hjb := hv.jb
                have hsz := hv.size
                have hbs := hv.bs
                by_cases hij : i2 ≤ j
                · obtain ⟨j, rfl⟩ : ∃ j', j = j' + 1 := ⟨j - 1, by omega⟩
                  obtain ⟨x, hx⟩ : ∃ x, x = D[j + 1]! := ⟨_, rfl⟩
                  have c1 := hRr.cell (j + 1) (by omega)
                  have c2 := hRr.cell a (by omega)
                  rw [← hx] at c1
                  rw [hv.piv] at c2
                  have HX : Hid (x = D[j + 1]!) := hx
                  clear hx
                  have g1 : (i2 : Int) ≤ (j : Int) + 1 := by omega
                  have g2 : (0 : Int) ≤ (j : Int) + 1 := by omega
                  have g3 : (j : Int) + 1 < (d.size : Int) := by omega
                  have g4 : (a : Int) < (d.size : Int) := by omega
                  by_cases hl : ltInt x p = true
                  · go_wp2
                    go_quiet ((go_at_call 79; exact Calls.quiet_of_same (less_any _ _ _)))
                    go_wp2
                    go_meet
                    case rel => exact ⟨j + 1, rfl, hv, fun _ => by rw [← HX.out]; simp [hl], hjJ, hRr.drewN _, grown_drewN hgr _⟩
                  · have hl' : ltInt x p = false := by simpa using hl
                    clear hl
                    go_wp2
                    go_quiet ((go_at_call 79; exact Calls.quiet_of_same (less_any _ _ _)))
                    go_wp2
                    go_roundw
                    case rel => exact ⟨j, by go_num, hv.down hij (by rw [← HX.out]; simp [hl']), by omega, hRr.drewN _, grown_drewN hgr _⟩
                    case measure => simp [intOf]
                · have hd1 : decide ((i2 : Int) ≤ (j : Int)) = false := decide_eq_false (by omega)
                  go_wp2
                  go_quiet ((go_at_call 79; exact Calls.quiet_of_same (less_any _ _ _)))
                  go_wp2
                  go_meet
                  case rel => exact ⟨j, rfl, hv, fun h => absurd h hij, hjJ, hRr.drewN _, grown_drewN hgr _⟩
            case rest =>
              obtain ⟨j2, rfl, hv2, hE2, hj1, hR2, hg2⟩ := hcut
              have hbs := hv2.bs
              have hai := hv2.ai
              have hjb := hv2.jb
              have hsz := hv2.size
              have hij2 := hv2.ij
              by_cases hij : i2 ≤ j2
              · obtain ⟨j2, rfl⟩ : ∃ j', j2 = j' + 1 := ⟨j2 - 1, by omega⟩
                have hq1 := hE1 (by omega)
                have hq2 := hE2 hij
                obtain ⟨x, hx⟩ : ∃ x, x = D[i2]! := ⟨_, rfl⟩
                obtain ⟨y, hy⟩ : ∃ y, y = D[j2 + 1]! := ⟨_, rfl⟩
                have c1 := hR2.cell i2 (by omega)
                have c2 := hR2.cell (j2 + 1) (by omega)
                have f1 := hR2.frozen i2
                have f2 := hR2.frozen (j2 + 1)
                rw [← hx] at c1
                rw [← hy] at c2
                have HX : Hid (x = D[i2]!) := hx
                have HY : Hid (y = D[j2 + 1]!) := hy
                have HQ1 : Hid ((fun x => ltInt x p) D[i2]! = false) := hq1
                have HQ2 : Hid ((fun x => ltInt x p) D[j2 + 1]! = true) := hq2
                have hne : ¬ i2 = j2 + 1 := fun e => by rw [e, hq2] at hq1; cases hq1
                clear hx hy hq1 hq2 hE1 hE2
                have g1 : (i2 : Int) ≤ (j2 : Int) + 1 := by omega
                have g2 : (0 : Int) ≤ (j2 : Int) + 1 := by omega
                have g3 : (j2 : Int) + 1 < (d.size : Int) := by omega
                have g6 : (i2 : Int) < (d.size : Int) := by omega
                have hSw := hR2.swap i2 (j2 + 1)
                rw [← HX.out, ← HY.out] at hSw
                have hVw := hv2.swap hij HQ1.out HQ2.out
                go_wp2
                go_region
                all_goals go_wp2
                go_roundw
                case rel =>
                  exact ⟨i2 + 1, j2, swp D i2 (j2 + 1), by go_num, by go_num, hVw, hSw, grown_setCell (grown_setCell (grown_drewN hg2 _) _ _) _ _⟩
                case measure => simp [intOf]; omega
              · have g1 : (j2 : Int) < (i2 : Int) := by omega
                obtain ⟨x, hx⟩ : ∃ x, x = D[j2]! := ⟨_, rfl⟩
                have c1 := hR2.cell j2 (by omega)
                have c2 := hR2.cell a (by omega)
                have f1 := hR2.frozen j2
                have f2 := hR2.frozen a
                have hSw := hR2.swap j2 a
                rw [← hx] at c1 hSw
                rw [hv2.piv] at c2 hSw
                clear hx
                have g3 : (j2 : Int) < (d.size : Int) := by omega
                have g6 : (a : Int) < (d.size : Int) := by omega
                obtain ⟨vv, hvv⟩ := cell?_setCell_some (p := ⟨g, j2, none⟩) (x := .int .i32 p) c2
                have hF := hv2.fin hij
                go_wp2
                go_region
                go_wp2
                go_ret2
                first | exact ⟨j2, false, rfl, swp D j2 a, hSw, grown_setCell (grown_setCell (grown_drewN hg2 _) _ _) _ _, hF⟩ | exact ⟨j2, false, swp D j2 a, rfl, hSw, grown_setCell (grown_setCell (grown_drewN hg2 _) _ _) _ _, hF⟩
      · have g1 : (j1 : Int) < (i1 : Int) := by omega
        obtain ⟨x, hx⟩ : ∃ x, x = D0[j1]! := ⟨_, rfl⟩
        have c1 := hR2.cell j1 (by omega)
        have c2 := hR2.cell a (by omega)
        have f1 := hR2.frozen j1
        have f2 := hR2.frozen a
        have hSw := hR2.swap j1 a
        rw [← hx] at c1 hSw
        rw [hv2.piv] at c2 hSw
        clear hx
        have g3 : (j1 : Int) < (d.size : Int) := by omega
        have g6 : (a : Int) < (d.size : Int) := by omega
        obtain ⟨vv, hvv⟩ := cell?_setCell_some (p := ⟨g, j1, none⟩) (x := .int .i32 p) c2
        have hF := hv2.fin hij
        go_wp2
        go_region
        go_wp2
        go_ret2
        first | exact ⟨j1, true, rfl, swp D0 j1 a, hSw, grown_setCell (grown_setCell (grown_drewN hg2 _) _ _) _ _, hF⟩ | exact ⟨j1, true, swp D0 j1 a, rfl, hSw, grown_setCell (grown_setCell (grown_drewN hg2 _) _ _) _ _, hF⟩
end Go.Proofs.Ybulkyyu.CSort
