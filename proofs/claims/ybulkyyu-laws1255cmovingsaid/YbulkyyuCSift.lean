/- siftDownOrdered at int32. -/
import Derived.Test.YbulkyyuCIns
import Derived.Deep.DeepCutAuto
namespace Go.Proofs.Ybulkyyu.CSort
open Go.RowKit Go.Sort
theorem wrap_small {x : Int} (h0 : -1000000 ≤ x) (h1 : x ≤ 1000000) : IntKind.i64.wrap x = x := by
  rw [IntKind.wrap_i64]
  omega
set_option maxHeartbeats 2000000 in
theorem sift_any (g cap lo hi F : Nat) (d : Array Int) (w : World) (hlo : lo ≤ hi) (hb : F + hi ≤ d.size) (hd : d.size ≤ 4096) (hR : Row w g cap d) :
    Calls Yba.prog 91 #[.slice (some ⟨g, 0, none⟩) d.size cap, .int .i64 lo, .int .i64 hi, .int .i64 F] w fun e w' => e = .returned (.tuple #[]) ∧ Row w' g cap (Sort.siftDown ltInt hi F lo d) ∧ w.grownBy w' (some g) := by
  have hr0 := grown_refl w (some g)
  go_enter Yba.func91, Yba.ntmps91
  go_wp2
  go_loopw [8] (fun i wr => ∃ (r : Nat) (dk : Array Int), i = .int .i64 r ∧ r ≤ hi ∧ dk.size = d.size ∧ Row wr g cap dk ∧ w.grownBy wr (some g) ∧ Sort.siftDown ltInt hi F r dk = Sort.siftDown ltInt hi F lo d) (fun i _ => hi + 1 - (intOf i).toNat)
  case atStart => exact ⟨lo, d, rfl, hlo, rfl, hR, hr0, rfl⟩
  case round =>
    obtain ⟨r, dk, rfl, hrh, hsk, hRk, hgk, hO⟩ := hrel
    have HO : Hid (Sort.siftDown ltInt hi F r dk = Sort.siftDown ltInt hi F lo d) := hO
    clear hO
    by_cases hlt : 2 * r + 1 < hi
    · obtain ⟨c, hc⟩ : ∃ c, c = kid hi F r dk := ⟨_, rfl⟩
      have hkl := kid_lt hi F r dk hlt
      rw [← hc] at hkl
      have hse := sift_eq hi F r dk hlt
      rw [← hc] at hse
      have HS : Hid (Sort.siftDown ltInt hi F r dk = if ltInt dk[F + r]! dk[F + c]! = true then Sort.siftDown ltInt hi F c (swp dk (F + r) (F + c)) else dk) := hse
      have HC : Hid (c = kid hi F r dk) := hc
      clear hse hc
      obtain ⟨x, hx⟩ : ∃ x, x = dk[F + r]! := ⟨_, rfl⟩
      obtain ⟨x1, hx1⟩ : ∃ x, x = dk[F + (2 * r + 1)]! := ⟨_, rfl⟩
      have c0 := hRk.cell (F + r) (by omega)
      have f0 := hRk.frozen (F + r)
      have c1 := hRk.cell (F + (2 * r + 1)) (by omega)
      rw [← hx] at c0
      rw [← hx1] at c1
      have HX : Hid (x = dk[F + r]!) := hx
      have HX1 : Hid (x1 = dk[F + (2 * r + 1)]!) := hx1
      clear hx hx1
      have e1 : ¬ (hi : Int) ≤ 2 * (r : Int) + 1 := by omega
      have w1 : IntKind.i64.wrap ((F : Int) + (r : Int)) = (F : Int) + (r : Int) := wrap_small (by omega) (by omega)
      have w2 : IntKind.i64.wrap ((F : Int) + (2 * (r : Int) + 1)) = (F : Int) + (2 * (r : Int) + 1) := wrap_small (by omega) (by omega)
      have w3 : IntKind.i64.wrap ((F : Int) + (2 * (r : Int) + 1 + 1)) = (F : Int) + (2 * (r : Int) + 1 + 1) := wrap_small (by omega) (by omega)
      have t1 : ((F : Int) + (r : Int)).toNat = F + r := by omega
      have t2 : ((F : Int) + (2 * (r : Int) + 1 + 1)).toNat = F + (2 * r + 1 + 1) := by omega
      have t3 : ((F : Int) + (2 * (r : Int) + 1)).toNat = F + (2 * r + 1) := by omega
      have b1 : (0 : Int) ≤ (F : Int) + (2 * (r : Int) + 1) := by omega
      have b2 : (F : Int) + (2 * (r : Int) + 1) < (d.size : Int) := by omega
      have b3 : (0 : Int) ≤ (F : Int) + (r : Int) := by omega
      have b4 : (F : Int) + (r : Int) < (d.size : Int) := by omega
      by_cases h2 : 2 * r + 1 + 1 < hi
      · have g1 : 2 * (r : Int) + 1 + 1 < (hi : Int) := by omega
        have b5 : (0 : Int) ≤ (F : Int) + (2 * (r : Int) + 1 + 1) := by omega
        have b6 : (F : Int) + (2 * (r : Int) + 1 + 1) < (d.size : Int) := by omega
        obtain ⟨x2, hx2⟩ : ∃ x, x = dk[F + (2 * r + 1) + 1]! := ⟨_, rfl⟩
        have c2 := hRk.cell (F + (2 * r + 1) + 1) (by omega)
        rw [← hx2] at c2
        have HX2 : Hid (x2 = dk[F + (2 * r + 1) + 1]!) := hx2
        clear hx2
        by_cases hk : ltInt x1 x2 = true
        · have hcc : c = 2 * r + 1 + 1 := by rw [HC.out]; unfold kid; rw [if_pos ⟨h2, by rw [← HX1.out, ← HX2.out]; exact hk⟩]
          subst hcc
          have f3 := hRk.frozen (F + (2 * r + 1 + 1))
          have HY : Hid (x2 = dk[F + (2 * r + 1 + 1)]!) := HX2
          have c3 : wr.cell? ⟨g, F + (2 * r + 1 + 1), none⟩ = some (.int .i32 x2) := c2
          by_cases hl : ltInt x x2 = true
          · go_wp2
            go_quiet ((go_at_call 79; first | exact Calls.quiet_of_same (less_any _ _ _) | (refine (less_any _ _ _).mono ?_; rintro e w2 ⟨rfl, rfl⟩; exact ⟨rfl, _, rfl⟩)))
            go_wp2
            go_quiet ((go_at_call 79; first | exact Calls.quiet_of_same (less_any _ _ _) | (refine (less_any _ _ _).mono ?_; rintro e w2 ⟨rfl, rfl⟩; exact ⟨rfl, _, rfl⟩)))
            go_wp2
            go_region
            all_goals go_wp2
            go_roundw
            case rel =>
              refine ⟨2 * r + 1 + 1, swp dk (F + r) (F + (2 * r + 1 + 1)), by go_num, by omega, by rw [size_swp]; exact hsk, ?_, ?_, ?_⟩
              · have := hRk.swap (F + r) (F + (2 * r + 1 + 1))
                rw [← HX.out, ← HY.out] at this
                exact this
              · exact grown_setCell (grown_setCell (grown_drewN hgk _) _ _) _ _
              · rw [← HO.out, HS.out, if_pos (by rw [← HX.out, ← HY.out]; exact hl)]
            case measure => simp [intOf]; omega
          · have hl' : ltInt x x2 = false := by simpa using hl
            clear hl
            go_wp2
            go_quiet ((go_at_call 79; first | exact Calls.quiet_of_same (less_any _ _ _) | (refine (less_any _ _ _).mono ?_; rintro e w2 ⟨rfl, rfl⟩; exact ⟨rfl, _, rfl⟩)))
            go_wp2
            go_quiet ((go_at_call 79; first | exact Calls.quiet_of_same (less_any _ _ _) | (refine (less_any _ _ _).mono ?_; rintro e w2 ⟨rfl, rfl⟩; exact ⟨rfl, _, rfl⟩)))
            go_wp2
            refine bodyPost_ret (results_none rfl _ _ _) rfl ⟨rfl, ?_, grown_drewN (grown_drewN hgk _) _⟩
            rw [← HO.out, HS.out, if_neg (by rw [← HX.out, ← HY.out, hl']; simp)]
            exact (hRk.drewN _).drewN _
        · have hk' : ltInt x1 x2 = false := by simpa using hk
          clear hk
          have hcc : c = 2 * r + 1 := by rw [HC.out]; unfold kid; rw [if_neg]; rw [← HX1.out, ← HX2.out, hk']; simp
          subst hcc
          have f3 := hRk.frozen (F + (2 * r + 1))
          have HY : Hid (x1 = dk[F + (2 * r + 1)]!) := HX1
          by_cases hl : ltInt x x1 = true
          · go_wp2
            go_quiet ((go_at_call 79; first | exact Calls.quiet_of_same (less_any _ _ _) | (refine (less_any _ _ _).mono ?_; rintro e w2 ⟨rfl, rfl⟩; exact ⟨rfl, _, rfl⟩)))
            go_wp2
            go_quiet ((go_at_call 79; first | exact Calls.quiet_of_same (less_any _ _ _) | (refine (less_any _ _ _).mono ?_; rintro e w2 ⟨rfl, rfl⟩; exact ⟨rfl, _, rfl⟩)))
            go_wp2
            go_region
            all_goals go_wp2
            go_roundw
            case rel =>
              refine ⟨2 * r + 1, swp dk (F + r) (F + (2 * r + 1)), by go_num, by omega, by rw [size_swp]; exact hsk, ?_, ?_, ?_⟩
              · have := hRk.swap (F + r) (F + (2 * r + 1))
                rw [← HX.out, ← HY.out] at this
                exact this
              · exact grown_setCell (grown_setCell (grown_drewN hgk _) _ _) _ _
              · rw [← HO.out, HS.out, if_pos (by rw [← HX.out, ← HY.out]; exact hl)]
            case measure => simp [intOf]; omega
          · have hl' : ltInt x x1 = false := by simpa using hl
            clear hl
            go_wp2
            go_quiet ((go_at_call 79; first | exact Calls.quiet_of_same (less_any _ _ _) | (refine (less_any _ _ _).mono ?_; rintro e w2 ⟨rfl, rfl⟩; exact ⟨rfl, _, rfl⟩)))
            go_wp2
            go_quiet ((go_at_call 79; first | exact Calls.quiet_of_same (less_any _ _ _) | (refine (less_any _ _ _).mono ?_; rintro e w2 ⟨rfl, rfl⟩; exact ⟨rfl, _, rfl⟩)))
            go_wp2
            refine bodyPost_ret (results_none rfl _ _ _) rfl ⟨rfl, ?_, grown_drewN (grown_drewN hgk _) _⟩
            rw [← HO.out, HS.out, if_neg (by rw [← HX.out, ← HY.out, hl']; simp)]
            exact (hRk.drewN _).drewN _
      · have hcc : c = 2 * r + 1 := by rw [HC.out]; unfold kid; rw [if_neg]; exact fun h => h2 h.1
        subst hcc
        have hd2 : decide (2 * (r : Int) + 1 + 1 < (hi : Int)) = false := decide_eq_false (by omega)
        have f3 := hRk.frozen (F + (2 * r + 1))
        have HY : Hid (x1 = dk[F + (2 * r + 1)]!) := HX1
        by_cases hl : ltInt x x1 = true
        · go_wp2
          go_quiet ((go_at_call 79; first | exact Calls.quiet_of_same (less_any _ _ _) | (refine (less_any _ _ _).mono ?_; rintro e w2 ⟨rfl, rfl⟩; exact ⟨rfl, _, rfl⟩)))
          go_wp2
          go_quiet ((go_at_call 79; first | exact Calls.quiet_of_same (less_any _ _ _) | (refine (less_any _ _ _).mono ?_; rintro e w2 ⟨rfl, rfl⟩; exact ⟨rfl, _, rfl⟩)))
          go_wp2
          go_region
          all_goals go_wp2
          go_roundw
          case rel =>
            refine ⟨2 * r + 1, swp dk (F + r) (F + (2 * r + 1)), by go_num, by omega, by rw [size_swp]; exact hsk, ?_, ?_, ?_⟩
            · have := hRk.swap (F + r) (F + (2 * r + 1))
              rw [← HX.out, ← HY.out] at this
              exact this
            · exact grown_setCell (grown_setCell (grown_drewN hgk _) _ _) _ _
            · rw [← HO.out, HS.out, if_pos (by rw [← HX.out, ← HY.out]; exact hl)]
          case measure => simp [intOf]; omega
        · have hl' : ltInt x x1 = false := by simpa using hl
          clear hl
          go_wp2
          go_quiet ((go_at_call 79; first | exact Calls.quiet_of_same (less_any _ _ _) | (refine (less_any _ _ _).mono ?_; rintro e w2 ⟨rfl, rfl⟩; exact ⟨rfl, _, rfl⟩)))
          go_wp2
          go_quiet ((go_at_call 79; first | exact Calls.quiet_of_same (less_any _ _ _) | (refine (less_any _ _ _).mono ?_; rintro e w2 ⟨rfl, rfl⟩; exact ⟨rfl, _, rfl⟩)))
          go_wp2
          refine bodyPost_ret (results_none rfl _ _ _) rfl ⟨rfl, ?_, grown_drewN (grown_drewN hgk _) _⟩
          rw [← HO.out, HS.out, if_neg (by rw [← HX.out, ← HY.out, hl']; simp)]
          exact (hRk.drewN _).drewN _
    · have e1 : (hi : Int) ≤ 2 * (r : Int) + 1 := by omega
      go_wp2
      go_end0
      refine ⟨rfl, ?_, hgk⟩
      rw [← HO.out, sift_stop _ _ _ _ (by omega)]
      exact hRk
end Go.Proofs.Ybulkyyu.CSort
