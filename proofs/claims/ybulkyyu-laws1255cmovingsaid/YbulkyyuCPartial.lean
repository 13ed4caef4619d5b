/- partialInsertionSortOrdered at int32. -/
import Derived.Test.YbulkyyuCHeap
import Derived.Deep.CutBlock
namespace Go.Proofs.Ybulkyyu.CSort
open Go.RowKit Go.Sort

theorem scan_go (d : Array Int) (b i : Nat) (h : i < b) (hl : ltInt d[i]! d[i - 1]! = false) : scanSorted ltInt d b i = scanSorted ltInt d b (i + 1) := by
  rw [scanSorted, if_pos]; simp [h, hl]
theorem scan_no (d : Array Int) (b i : Nat) (hl : i < b → ltInt d[i]! d[i - 1]! = true) : scanSorted ltInt d b i = i := by
  rw [scanSorted, if_neg]
  by_cases h : i < b
  · simp [hl h]
  · simp [h]
theorem shD_go (j : Nat) (d : Array Int) (hl : ltInt d[j + 1]! d[j]! = true) : shiftDown ltInt (j + 1) d = shiftDown ltInt j (swp d (j + 1) j) := by rw [shiftDown, if_neg (by simp [hl])]
theorem shD_no (j : Nat) (d : Array Int) (hl : ltInt d[j + 1]! d[j]! = false) : shiftDown ltInt (j + 1) d = d := by rw [shiftDown, if_pos (by simp [hl])]
theorem shU_go (b j : Nat) (d : Array Int) (h : j + 1 < b) (hl : ltInt d[j + 1]! d[j]! = true) : shiftUp ltInt b (j + 1) d = shiftUp ltInt b (j + 2) (swp d (j + 1) j) := by
  rw [shiftUp, if_pos h, if_neg (by simp [hl])]; rfl
theorem shU_no (b j : Nat) (d : Array Int) (hl : j + 1 < b → ltInt d[j + 1]! d[j]! = false) : shiftUp ltInt b (j + 1) d = d := by
  rw [shiftUp]
  by_cases h : j + 1 < b
  · rw [if_pos h, if_pos (by simp [hl h])]
  · rw [if_neg h]

theorem shD_size : ∀ (j : Nat) (d : Array Int), (shiftDown ltInt j d).size = d.size := by
  intro j
  induction j with
  | zero => intro d; rfl
  | succ j ih =>
    intro d
    rw [shiftDown]
    split
    · rfl
    · rw [ih, size_swp]
theorem fixD_size (a i : Nat) (d : Array Int) : (fixDown ltInt a i d).size = d.size := by
  unfold fixDown
  split
  · exact shD_size _ _
  · rfl
theorem shU_size (b : Nat) : ∀ (n j : Nat) (d : Array Int), b - j ≤ n → (shiftUp ltInt b j d).size = d.size := by
  intro n
  induction n with
  | zero => intro j d h; rw [shiftUp, if_neg (by omega)]
  | succ n ih =>
    intro j d h
    rw [shiftUp]
    split
    · split
      · rfl
      · rw [ih _ _ (by omega), size_swp]
    · rfl
theorem fixU_size (b i : Nat) (d : Array Int) : (fixUp ltInt b i d).size = d.size := by
  unfold fixUp
  split
  · exact shU_size _ _ _ _ (Nat.le_refl _)
  · rfl

set_option maxRecDepth 100000 in
set_option maxHeartbeats 4000000 in
theorem partial_any (g cap a b : Nat) (d : Array Int) (w : World) (ha : a < b) (hb : b ≤ d.size) (hd : d.size ≤ 4096) (hR : Row w g cap d) :
    Calls Yba.prog 78 #[.slice (some ⟨g, 0, none⟩) d.size cap, .int .i64 a, .int .i64 b] w fun e w' => e = .returned (.bool (partialInsertionSort ltInt d a b).2) ∧ Row w' g cap (partialInsertionSort ltInt d a b).1 ∧ w.grownBy w' (some g) := by
  have hr0 := grown_refl w (some g)
  have HT : Hid (partialInsertionSort ltInt d a b = partialIns ltInt a b 5 (a + 1) d) := rfl
  generalize partialInsertionSort ltInt d a b = T at HT ⊢
  go_enter Yba.func78, Yba.ntmps78
  go_wp2
  go_loopw [7, 8] (fun si sj wr => ∃ (s i : Nat) (x : Int) (D : Array Int), si = .int .i64 i ∧ sj = .int .i64 x ∧ x = 5 - (s : Int) ∧ s ≤ 5 ∧ a < i ∧ i ≤ b ∧ D.size = d.size ∧ Row wr g cap D ∧ w.grownBy wr (some g) ∧ T = partialIns ltInt a b s i D) (fun _ sj _ => (5 - intOf sj).toNat)
  case atStart => exact ⟨5, a + 1, _, d, by go_num, rfl, rfl, Nat.le_refl _, by omega, by omega, rfl, hR, hr0, HT.out⟩
  case round =>
    obtain ⟨s, I, x, D, rfl, rfl, hx, hs5, haI, hIb, hsz, hRD, hgD, hO⟩ := hrel
    have HO : Hid (T = partialIns ltInt a b s I D) := hO
    clear hO HT hR
    by_cases hs : 0 < s
    · obtain ⟨s, rfl⟩ : ∃ s', s = s' + 1 := ⟨s - 1, by omega⟩
      have hx5 : x < 5 := by omega
      have HXX : Hid (x = 5 - ((s + 1 : Nat) : Int)) := hx
      have hx1 : x ≤ 4 := by omega
      have hx2 : 0 ≤ x := by omega
      clear hx hs
      go_upto_block 2 with fail
      go_cut [7] (fun s7 wx => ∃ i : Nat, s7 = .int .i64 i ∧ a < i ∧ i ≤ b ∧ (i < b → ltInt D[i]! D[i - 1]! = true) ∧ scanSorted ltInt D b I = i ∧ Row wx g cap D ∧ w.grownBy wx (some g))
      case first =>
        go_wp2_with fail
        go_loopw [7] (fun s7 wx => ∃ i : Nat, s7 = .int .i64 i ∧ a < i ∧ i ≤ b ∧ scanSorted ltInt D b I = scanSorted ltInt D b i ∧ Row wx g cap D ∧ w.grownBy wx (some g)) (fun s7 _ => b - (intOf s7).toNat)
        case atStart => exact ⟨I, rfl, haI, hIb, rfl, hRD, hgD⟩
        case round =>
          obtain ⟨i, rfl, hai, hib, hsc, hRr, hgr⟩ := hrel
          have HSC : Hid (scanSorted ltInt D b I = scanSorted ltInt D b i) := hsc
          clear hsc
          by_cases hlt : i < b
          · obtain ⟨i, rfl⟩ : ∃ i', i = i' + 1 := ⟨i - 1, by omega⟩
            obtain ⟨u, hu⟩ : ∃ u, u = D[i + 1]! := ⟨_, rfl⟩
            obtain ⟨v, hv⟩ : ∃ v, v = D[i]! := ⟨_, rfl⟩
            have c1 := hRr.cell (i + 1) (by omega)
            have c2 := hRr.cell i (by omega)
            rw [← hu] at c1
            rw [← hv] at c2
            have HU : Hid (u = D[i + 1]!) := hu
            have HV : Hid (v = D[i]!) := hv
            clear hu hv
            have g1 : (i : Int) + 1 < (b : Int) := by omega
            have g2 : (0 : Int) ≤ (i : Int) + 1 := by omega
            have g3 : (i : Int) + 1 < (d.size : Int) := by omega
            have g4 : (i : Int) < (d.size : Int) := by omega
            by_cases hl : ltInt u v = true
            · go_wp2
              go_quiet ((go_at_call 79; exact Calls.quiet_of_same (less_any _ _ _)))
              go_wp2
              go_meet
              case rel => exact ⟨i + 1, rfl, by omega, by omega, fun _ => by rw [Nat.add_sub_cancel, ← HU.out, ← HV.out]; exact hl, by rw [HSC.out, scan_no _ _ _ (fun _ => by rw [Nat.add_sub_cancel, ← HU.out, ← HV.out]; exact hl)], hRr.drewN _, grown_drewN hgr _⟩
            · have hl' : ltInt u v = false := by simpa using hl
              clear hl
              go_wp2
              go_quiet ((go_at_call 79; exact Calls.quiet_of_same (less_any _ _ _)))
              go_wp2
              go_roundw
              case rel => exact ⟨i + 1 + 1, by go_num, by omega, by omega, by rw [HSC.out, scan_go _ _ _ hlt (by rw [Nat.add_sub_cancel, ← HU.out, ← HV.out]; exact hl')], hRr.drewN _, grown_drewN hgr _⟩
              case measure => simp [intOf]; omega
          · have hd1 : decide ((i : Int) < (b : Int)) = false := decide_eq_false (by omega)
            go_wp2
            go_quiet ((go_at_call 79; exact Calls.quiet_of_same (less_any _ _ _)))
            go_wp2
            go_meet
            case rel => exact ⟨i, rfl, hai, hib, fun h => absurd h hlt, by rw [HSC.out, scan_no _ _ _ (fun h => absurd h hlt)], hRr.drewN _, grown_drewN hgr _⟩
      case rest =>
        obtain ⟨i, rfl, hai, hib, hE, hsc, hR1, hg1⟩ := hcut
        have hsuc := partialIns_succ (lt := ltInt) a b s I D
        rw [hsc] at hsuc
        have HS : Hid (partialIns ltInt a b (s + 1) I D = if i = b then (D, true) else if b - a < 50 then (D, false) else partialIns ltInt a b s i (fixUp ltInt b i (fixDown ltInt a i (swp D i (i - 1))))) := hsuc
        clear hsuc hsc
        by_cases hib2 : i = b
        · subst hib2
          have e1 : ((i : Int) == (i : Int)) = true := by simp
          go_wp2
          go_ret
          have hT : T = (D, true) := by rw [HO.out, HS.out]; simp
          exact ⟨by rw [hT]; rfl, by rw [hT]; exact hR1, hg1⟩
        · have hq : ((i : Int) == (b : Int)) = false := beq_eq_false_iff_ne.2 (by omega)
          have hlb : i < b := by omega
          have HNE : Hid (¬ i = b) := hib2
          clear hib2
          by_cases h50 : b - a < 50
          · have e2 : (b : Int) - (a : Int) < 50 := by omega
            go_wp2
            go_ret
            have hT : T = (D, false) := by rw [HO.out, HS.out, if_neg HNE.out, if_pos h50]
            exact ⟨by rw [hT]; rfl, by rw [hT]; exact hR1, hg1⟩
          · have e2 : (50 : Int) ≤ (b : Int) - (a : Int) := by omega
            have HT2 : Hid (T = partialIns ltInt a b s i (fixUp ltInt b i (fixDown ltInt a i (swp D i (i - 1))))) := by
              show T = _
              rw [HO.out, HS.out, if_neg HNE.out, if_neg h50]
            clear h50
            obtain ⟨i, rfl⟩ : ∃ i', i = i' + 1 := ⟨i - 1, by omega⟩
            rw [Nat.add_sub_cancel] at HT2
            obtain ⟨u, hu⟩ : ∃ u, u = D[i + 1]! := ⟨_, rfl⟩
            obtain ⟨v, hv⟩ : ∃ v, v = D[i]! := ⟨_, rfl⟩
            have c1 := hR1.cell (i + 1) (by omega)
            have c2 := hR1.cell i (by omega)
            have f1 := hR1.frozen (i + 1)
            have f2 := hR1.frozen i
            have hSw := hR1.swap (i + 1) i
            rw [← hu] at c1 hSw
            rw [← hv] at c2 hSw
            clear hu hv hE
            have hs2 : (swp D (i + 1) i).size = d.size := by rw [size_swp]; exact hsz
            generalize swp D (i + 1) i = D2 at hSw hs2 HT2
            have g2 : (0 : Int) ≤ (i : Int) + 1 := by omega
            have g3 : (i : Int) + 1 < (d.size : Int) := by omega
            have g4 : (i : Int) < (d.size : Int) := by omega
            have hgw := grown_setCell (grown_setCell (grown_drewN hg1 1) (i + 1) (.int .i32 v)) i (.int .i32 u)
            go_wp2
            go_region
            replace hSw := hSw.drewN 1
            obtain ⟨W, hW⟩ : ∃ W, W = ((wc.setCell ⟨g, i + 1, none⟩ (.int .i32 v)).setCell ⟨g, i, none⟩ (.int .i32 u)).drew := ⟨_, rfl⟩
            have hSw' : Row W g cap D2 := by rw [hW]; exact hSw
            have hgw' : w.grownBy W (some g) := by rw [hW]; exact hgw
            rw [← hW]
            clear hW hSw hgw c1 c2 f1 f2 hR1 hg1
            go_upto_if 61 with fail
            go_cut [9] (fun _ wx => Row wx g cap (fixDown ltInt a (i + 1) D2) ∧ w.grownBy wx (some g))
            case first =>
              by_cases h2 : 2 ≤ i + 1 - a
              · have HF : Hid (fixDown ltInt a (i + 1) D2 = shiftDown ltInt i D2) := by show fixDown ltInt a (i + 1) D2 = _; unfold fixDown; rw [if_pos h2]; rfl
                have e3 : (2 : Int) ≤ (i : Int) + 1 - (a : Int) := by omega
                go_wp2
                go_loopw [9] (fun s9 wx => ∃ (j : Nat) (E : Array Int), s9 = .int .i64 j ∧ j ≤ i ∧ E.size = d.size ∧ shiftDown ltInt j E = shiftDown ltInt i D2 ∧ Row wx g cap E ∧ w.grownBy wx (some g)) (fun s9 _ => (intOf s9).toNat)
                case atStart => exact ⟨i, D2, by go_num, Nat.le_refl _, hs2, rfl, hSw', hgw'⟩
                case round =>
                  obtain ⟨j, E, rfl, hji, hsE, hsh, hRr, hgr⟩ := hrel
                  have HSH : Hid (shiftDown ltInt j E = shiftDown ltInt i D2) := hsh
                  clear hsh
                  by_cases hj : 0 < j
                  · obtain ⟨j, rfl⟩ : ∃ j', j = j' + 1 := ⟨j - 1, by omega⟩
                    obtain ⟨u, hu⟩ : ∃ u, u = E[j + 1]! := ⟨_, rfl⟩
                    obtain ⟨v, hv⟩ : ∃ v, v = E[j]! := ⟨_, rfl⟩
                    have c1 := hRr.cell (j + 1) (by omega)
                    have c2 := hRr.cell j (by omega)
                    have f1 := hRr.frozen (j + 1)
                    have f2 := hRr.frozen j
                    have hSw := hRr.swap (j + 1) j
                    rw [← hu] at c1 hSw
                    rw [← hv] at c2 hSw
                    have HU : Hid (u = E[j + 1]!) := hu
                    have HV : Hid (v = E[j]!) := hv
                    clear hu hv
                    have g1 : (1 : Int) ≤ (j : Int) + 1 := by omega
                    have g2 : (0 : Int) ≤ (j : Int) + 1 := by omega
                    have g3 : (j : Int) + 1 < (d.size : Int) := by omega
                    have g4 : (j : Int) < (d.size : Int) := by omega
                    by_cases hl : ltInt u v = true
                    · go_wp2
                      go_quiet ((go_at_call 79; exact Calls.quiet_of_same (less_any _ _ _)))
                      go_wp2
                      go_region
                      all_goals go_wp2
                      go_roundw
                      case rel => exact ⟨j, swp E (j + 1) j, by go_num, by omega, by rw [size_swp]; exact hsE, by rw [← HSH.out, shD_go _ _ (by rw [← HU.out, ← HV.out]; exact hl)], hSw, grown_setCell (grown_setCell (grown_drewN hgr _) _ _) _ _⟩
                      case measure => simp [intOf]
                    · have hl' : ltInt u v = false := by simpa using hl
                      clear hl
                      go_wp2
                      go_quiet ((go_at_call 79; exact Calls.quiet_of_same (less_any _ _ _)))
                      go_wp2
                      go_meet
                      case rel => exact ⟨by rw [HF.out, ← HSH.out, shD_no _ _ (by rw [← HU.out, ← HV.out]; exact hl')]; exact hRr.drewN _, grown_drewN hgr _⟩
                  · have g1 : (j : Int) < 1 := by omega
                    obtain rfl : j = 0 := by omega
                    go_wp2
                    go_meet
                    case rel => exact ⟨by rw [HF.out, ← HSH.out]; exact hRr, hgr⟩
              · have e3 : (i : Int) + 1 - (a : Int) < 2 := by omega
                have hF : fixDown ltInt a (i + 1) D2 = D2 := by unfold fixDown; rw [if_neg h2]
                have HF : Hid (fixDown ltInt a (i + 1) D2 = D2) := hF
                clear hF h2
                go_wp2
                go_meet
                case rel => exact ⟨by rw [HF.out]; exact hSw', hgw'⟩
            case rest =>
              obtain ⟨hR3, hg3⟩ := hcut
              have hs3 : (fixDown ltInt a (i + 1) D2).size = d.size := by rw [fixD_size]; exact hs2
              generalize fixDown ltInt a (i + 1) D2 = D3 at hR3 hs3 HT2
              clear hSw' hgw'
              go_upto_if 98 with fail
              by_cases h2 : 2 ≤ b - (i + 1)
              · have HF : Hid (fixUp ltInt b (i + 1) D3 = shiftUp ltInt b (i + 1 + 1) D3) := by show fixUp ltInt b (i + 1) D3 = _; unfold fixUp; rw [if_pos h2]
                have e3 : (2 : Int) ≤ (b : Int) - ((i : Int) + 1) := by omega
                go_wp2
                go_loopw [10] (fun s10 wx => ∃ (j : Nat) (E : Array Int), s10 = .int .i64 ((j : Int) + 1) ∧ i + 1 ≤ j ∧ j + 1 ≤ b ∧ E.size = d.size ∧ shiftUp ltInt b (j + 1) E = shiftUp ltInt b (i + 1 + 1) D3 ∧ Row wx g cap E ∧ w.grownBy wx (some g)) (fun s10 _ => b - (intOf s10).toNat)
                case atStart => exact ⟨i + 1, D3, by go_num, Nat.le_refl _, by omega, hs3, rfl, hR3, hg3⟩
                case round =>
                  obtain ⟨j, E, rfl, hij, hjb, hsE, hsh, hRr, hgr⟩ := hrel
                  have HSH : Hid (shiftUp ltInt b (j + 1) E = shiftUp ltInt b (i + 1 + 1) D3) := hsh
                  clear hsh
                  by_cases hj : j + 1 < b
                  · obtain ⟨u, hu⟩ : ∃ u, u = E[j + 1]! := ⟨_, rfl⟩
                    obtain ⟨v, hv⟩ : ∃ v, v = E[j]! := ⟨_, rfl⟩
                    have c1 := hRr.cell (j + 1) (by omega)
                    have c2 := hRr.cell j (by omega)
                    have f1 := hRr.frozen (j + 1)
                    have f2 := hRr.frozen j
                    have hSw := hRr.swap (j + 1) j
                    rw [← hu] at c1 hSw
                    rw [← hv] at c2 hSw
                    have HU : Hid (u = E[j + 1]!) := hu
                    have HV : Hid (v = E[j]!) := hv
                    clear hu hv
                    have g1 : (j : Int) + 1 < (b : Int) := by omega
                    have g2 : (0 : Int) ≤ (j : Int) + 1 := by omega
                    have g3 : (j : Int) + 1 < (d.size : Int) := by omega
                    have g4 : (j : Int) < (d.size : Int) := by omega
                    by_cases hl : ltInt u v = true
                    · go_wp2
                      go_quiet ((go_at_call 79; exact Calls.quiet_of_same (less_any _ _ _)))
                      go_wp2
                      go_region
                      all_goals go_wp2
                      go_roundw
                      case rel => exact ⟨j + 1, swp E (j + 1) j, by go_num, by omega, by omega, by rw [size_swp]; exact hsE, by rw [← HSH.out, shU_go _ _ _ hj (by rw [← HU.out, ← HV.out]; exact hl)], hSw, grown_setCell (grown_setCell (grown_drewN hgr _) _ _) _ _⟩
                      case measure => simp [intOf]; omega
                    · have hl' : ltInt u v = false := by simpa using hl
                      clear hl
                      go_wp2
                      go_quiet ((go_at_call 79; exact Calls.quiet_of_same (less_any _ _ _)))
                      go_wp2
                      go_roundw
                      case rel => exact ⟨s, i + 1, _, fixUp ltInt b (i + 1) D3, by go_num, rfl, by have := HXX.out; omega, by omega, by omega, by omega, by rw [fixU_size]; exact hs3, by rw [HF.out, ← HSH.out, shU_no _ _ _ (fun _ => by rw [← HU.out, ← HV.out]; exact hl')]; exact hRr.drewN _, grown_drewN hgr _, HT2.out⟩
                      case measure => simp [intOf]; omega
                  · have g1 : (b : Int) ≤ (j : Int) + 1 := by omega
                    go_wp2
                    go_roundw
                    case rel => exact ⟨s, i + 1, _, fixUp ltInt b (i + 1) D3, by go_num, rfl, by have := HXX.out; omega, by omega, by omega, by omega, by rw [fixU_size]; exact hs3, by rw [HF.out, ← HSH.out, shU_no _ _ _ (fun h => absurd h hj)]; exact hRr, hgr, HT2.out⟩
                    case measure => simp [intOf]; omega
              · have e3 : (b : Int) - ((i : Int) + 1) < 2 := by omega
                have hF : fixUp ltInt b (i + 1) D3 = D3 := by unfold fixUp; rw [if_neg h2]
                have HF : Hid (fixUp ltInt b (i + 1) D3 = D3) := hF
                clear hF h2
                go_wp2
                go_roundw
                case rel => exact ⟨s, i + 1, _, fixUp ltInt b (i + 1) D3, by go_num, rfl, by have := HXX.out; omega, by omega, by omega, by omega, by rw [fixU_size]; exact hs3, by rw [HF.out]; exact hR3, hg3, HT2.out⟩
                case measure => simp [intOf]; omega
    · have hx5 : 5 ≤ x := by omega
      obtain rfl : s = 0 := by omega
      clear hx hs
      go_wp2
      go_ret
      have hT : T = (D, false) := HO.out
      exact ⟨by rw [hT]; rfl, by rw [hT]; exact hRD, hgD⟩
end Go.Proofs.Ybulkyyu.CSort
