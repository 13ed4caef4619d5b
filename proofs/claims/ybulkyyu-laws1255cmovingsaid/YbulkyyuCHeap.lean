/- heapSortOrdered at int32. -/
import Derived.Test.YbulkyyuCSift
namespace Go.Proofs.Ybulkyyu.CSort
open Go.RowKit Go.Sort
theorem build_succ (hi F k : Nat) (d : Array Int) : heapBuild ltInt hi F (k + 1) d = heapBuild ltInt hi F k (Sort.siftDown ltInt hi F k d) := rfl
theorem pop_succ (F k : Nat) (d : Array Int) : heapPop ltInt F (k + 1) d = heapPop ltInt F k (Sort.siftDown ltInt k F 0 (swp d F (F + k))) := rfl
theorem sift_size (hi F : Nat) : ∀ (n r : Nat) (d : Array Int), hi - r ≤ n → (Sort.siftDown ltInt hi F r d).size = d.size := by
  intro n
  induction n with
  | zero => intro r d h; rw [sift_stop _ _ _ _ (by omega)]
  | succ n ih =>
    intro r d h
    by_cases hlt : 2 * r + 1 < hi
    · rw [sift_eq _ _ _ _ hlt]
      have := kid_lt hi F r d hlt
      split
      · rw [ih _ _ (by omega), size_swp]
      · rfl
    · rw [sift_stop _ _ _ _ (by omega)]

set_option maxHeartbeats 1000000 in
theorem heap_any (g cap a b : Nat) (d : Array Int) (w : World) (ha : a < b) (hb : b ≤ d.size) (hd : d.size ≤ 4096) (hR : Row w g cap d) :
    Calls Yba.prog 74 #[.slice (some ⟨g, 0, none⟩) d.size cap, .int .i64 a, .int .i64 b] w fun e w' => e = .returned (.tuple #[]) ∧ Row w' g cap (heapSort ltInt d a b) ∧ w.grownBy w' (some g) := by
  have hr0 := grown_refl w (some g)
  have hab : (a : Int) < (b : Int) := by omega
  obtain ⟨h, hh⟩ : ∃ h : Nat, h = b - a := ⟨_, rfl⟩
  have hba : (b : Int) - (a : Int) = (h : Int) := by omega
  have HH : Hid (h = b - a) := hh
  have h1 : 1 ≤ h := by omega
  have hah : a + h ≤ d.size := by omega
  clear hh
  have HT : Hid (heapSort ltInt d a b = heapPop ltInt a h (heapBuild ltInt h a ((h - 1) / 2 + 1) d)) := by unfold heapSort; rw [← HH.out]; rfl
  go_enter Yba.func74, Yba.ntmps74
  go_wp2
  go_loopw [9] (fun i wr => ∃ (k : Nat) (x : Int) (dk : Array Int), i = .int .i64 x ∧ x = (k : Int) - 1 ∧ k ≤ h ∧ dk.size = d.size ∧ Row wr g cap dk ∧ w.grownBy wr (some g) ∧ heapBuild ltInt h a k dk = heapBuild ltInt h a ((h - 1) / 2 + 1) d) (fun i _ => (intOf i + 1).toNat)
  case atStart => exact ⟨(h - 1) / 2 + 1, _, d, rfl, by omega, by omega, rfl, hR, hr0, rfl⟩
  case round =>
    obtain ⟨k, x, dk, rfl, hx, hkh, hsk, hRk, hgk, hO⟩ := hrel
    have HO : Hid (heapBuild ltInt h a k dk = heapBuild ltInt h a ((h - 1) / 2 + 1) d) := hO
    clear hO
    by_cases hk : 0 < k
    · obtain ⟨m, rfl⟩ : ∃ m, k = m + 1 := ⟨k - 1, by omega⟩
      obtain rfl : x = (m : Int) := by omega
      clear hx
      go_wp2_with fail
      rw [← hsk]
      refine (sift_any g cap m h a dk wr (by omega) (by omega) (by omega) hRk).mono ?_
      rintro e w1 ⟨rfl, hR1, hg1⟩
      rw [hsk]
      go_wp2
      go_roundw
      case rel => exact ⟨m, _, _, rfl, by omega, by omega, by rw [sift_size _ _ _ _ _ (Nat.le_refl _)]; exact hsk, hR1, grown_trans hgk hg1, by rw [← HO.out, build_succ]⟩
      case measure => simp [intOf]
    · have hx' : x < 0 := by omega
      obtain rfl : k = 0 := by omega
      clear hx hk
      go_wp2
      go_loopw [10] (fun i wr => ∃ (k : Nat) (x : Int) (dj : Array Int), i = .int .i64 x ∧ x = (k : Int) - 1 ∧ k ≤ h ∧ dj.size = d.size ∧ Row wr g cap dj ∧ w.grownBy wr (some g) ∧ heapPop ltInt a k dj = heapPop ltInt a h dk) (fun i _ => (intOf i + 1).toNat)
      case atStart => exact ⟨h, _, dk, rfl, rfl, Nat.le_refl _, hsk, hRk, hgk, rfl⟩
      case round =>
        obtain ⟨k, x, dj, rfl, hx, hkh, hsj, hRj, hgj, hP⟩ := hrel
        have HP : Hid (heapPop ltInt a k dj = heapPop ltInt a h dk) := hP
        clear hP
        by_cases hk : 0 < k
        · obtain ⟨m, rfl⟩ : ∃ m, k = m + 1 := ⟨k - 1, by omega⟩
          obtain rfl : x = (m : Int) := by omega
          obtain ⟨u, hu⟩ : ∃ u, u = dj[a]! := ⟨_, rfl⟩
          obtain ⟨v, hv⟩ : ∃ v, v = dj[a + m]! := ⟨_, rfl⟩
          have c1 := hRj.cell a (by omega)
          have c2 := hRj.cell (a + m) (by omega)
          have f1 := hRj.frozen a
          have f2 := hRj.frozen (a + m)
          rw [← hu] at c1
          rw [← hv] at c2
          have HU : Hid (u = dj[a]!) := hu
          have HV : Hid (v = dj[a + m]!) := hv
          clear hu hv hx
          have w1 : IntKind.i64.wrap ((a : Int) + (m : Int)) = (a : Int) + (m : Int) := wrap_small (by omega) (by omega)
          have t1 : ((a : Int) + (m : Int)).toNat = a + m := by omega
          have b1 : (0 : Int) ≤ (a : Int) + (m : Int) := by omega
          have b2 : (a : Int) + (m : Int) < (d.size : Int) := by omega
          have b3 : (a : Int) < (d.size : Int) := by omega
          obtain ⟨vv, hvv⟩ := cell?_setCell_some (w := wr) (p := ⟨g, a, none⟩) (x := .int .i32 v) c2
          go_wp2
          go_region
          all_goals go_wp2_with fail
          have hS := hRj.swap a (a + m)
          rw [← HU.out, ← HV.out] at hS
          have hsS : (swp dj a (a + m)).size = d.size := by rw [size_swp]; exact hsj
          rw [← hsS]
          refine (sift_any g cap 0 m a (swp dj a (a + m)) _ (by omega) (by omega) (by omega) (hS.drewN 1)).mono ?_
          rintro e w1 ⟨rfl, hR1, hg1⟩
          rw [hsS]
          have hgA := grown_trans (grown_setCell (grown_setCell (grown_drewN hgj 1) a (.int .i32 v)) (a + m) (.int .i32 u)) hg1
          clear c1 c2 f1 f2 hvv hS hg1
          go_wp2
          go_roundw
          case rel => exact ⟨m, _, _, rfl, by omega, by omega, by rw [sift_size _ _ _ _ _ (Nat.le_refl _)]; exact hsS, hR1, hgA, by rw [← HP.out, pop_succ]⟩
          case measure => simp [intOf]
        · have hx' : x < 0 := by omega
          obtain rfl : k = 0 := by omega
          clear hx hk
          go_wp2
          go_end0
          refine ⟨rfl, ?_, hgj⟩
          rw [HT.out, ← HO.out]
          show Row wr g cap (heapPop ltInt a h dk)
          rw [← HP.out]
          exact hRj
end Go.Proofs.Ybulkyyu.CSort
