/- insertionSortOrdered and reverseRangeOrdered at int32. -/
import Derived.Test.YbulkyyuCRow
namespace Go.Proofs.Ybulkyyu.CSort
open Go.RowKit Go.Sort

theorem insOuter_go (a b i : Nat) (d : Array Int) (h : i < b) : insOuter ltInt a b i d = insOuter ltInt a b (i + 1) (insInner ltInt a i d) := by rw [insOuter, if_pos h]
theorem insOuter_stop (a b i : Nat) (d : Array Int) (h : ¬ i < b) : insOuter ltInt a b i d = d := by rw [insOuter, if_neg h]
theorem insInner_go (a j : Nat) (d : Array Int) (h : a ≤ j) (hl : ltInt d[j + 1]! d[j]! = true) : insInner ltInt a (j + 1) d = insInner ltInt a j (swp d (j + 1) j) := by
  rw [insInner, if_pos]
  simp only [Bool.and_eq_true, decide_eq_true_eq]
  exact ⟨by omega, hl⟩
theorem insInner_no (a j : Nat) (d : Array Int) (hl : ltInt d[j + 1]! d[j]! = false) : insInner ltInt a (j + 1) d = d := by rw [insInner, if_neg]; simp [hl]
theorem insInner_end (a : Nat) (d : Array Int) : insInner ltInt a a d = d := by
  cases a with
  | zero => rfl
  | succ a => rw [insInner, if_neg]; simp

set_option maxHeartbeats 1000000 in
theorem insertion_any (g cap a b : Nat) (d : Array Int) (w : World) (ha : a ≤ b) (hb : b ≤ d.size) (hd : d.size ≤ 4096) (hR : Row w g cap d) :
    Calls Yba.prog 73 #[.slice (some ⟨g, 0, none⟩) d.size cap, .int .i64 a, .int .i64 b] w fun e w' => e = .returned (.tuple #[]) ∧ Row w' g cap (insertionSort ltInt d a b) ∧ w.grownBy w' (some g) := by
  have hr0 := grown_refl w (some g)
  have hab : (a : Int) ≤ (b : Int) := by omega
  go_enter Yba.func73, Yba.ntmps73
  go_wp2
  go_loopw [6] (fun i wr => ∃ (k : Nat) (dk : Array Int), i = .int .i64 k ∧ a < k ∧ k ≤ b + 1 ∧ dk.size = d.size ∧ Row wr g cap dk ∧ w.grownBy wr (some g) ∧ insOuter ltInt a b k dk = insOuter ltInt a b (a + 1) d) (fun i _ => b + 1 - (intOf i).toNat)
  case atStart => exact ⟨a + 1, d, by go_num, by omega, by omega, rfl, hR, hr0, rfl⟩
  case round =>
    obtain ⟨k, dk, rfl, hak, hkb, hsk, hRk, hgk, hO⟩ := hrel
    have HO : Hid (insOuter ltInt a b k dk = insOuter ltInt a b (a + 1) d) := hO
    clear hO
    by_cases hlt : k < b
    · obtain ⟨wo, rfl⟩ : ∃ wo : World, wo = wr := ⟨_, rfl⟩
      go_wp2
      go_loopw [7] (fun j wr => ∃ (h : Nat) (dj : Array Int), j = .int .i64 h ∧ a ≤ h ∧ h ≤ k ∧ dj.size = d.size ∧ Row wr g cap dj ∧ w.grownBy wr (some g) ∧ insInner ltInt a h dj = insInner ltInt a k dk) (fun j _ => (intOf j).toNat)
      case atStart => exact ⟨k, dk, rfl, by omega, Nat.le_refl _, hsk, hRk, hgk, rfl⟩
      case round =>
        obtain ⟨h, dj, rfl, hah, hhk, hsj, hRj, hgj, hI⟩ := hrel
        have HI : Hid (insInner ltInt a h dj = insInner ltInt a k dk) := hI
        clear hI
        by_cases hh : a < h
        · obtain ⟨p, rfl⟩ : ∃ p, h = p + 1 := ⟨h - 1, by omega⟩
          obtain ⟨x, hx⟩ : ∃ x, x = dj[p + 1]! := ⟨_, rfl⟩
          obtain ⟨y, hy⟩ : ∃ y, y = dj[p]! := ⟨_, rfl⟩
          have c1 := hRj.cell (p + 1) (by omega)
          have c2 := hRj.cell p (by omega)
          have f1 := hRj.frozen (p + 1)
          have f2 := hRj.frozen p
          rw [← hx] at c1
          rw [← hy] at c2
          have HX : Hid (x = dj[p + 1]!) := hx
          have HY : Hid (y = dj[p]!) := hy
          clear hx hy
          have e1 : (a : Int) < (p : Int) + 1 := by omega
          have e2 : (0 : Int) ≤ (p : Int) + 1 := by omega
          have e3 : (p : Int) + 1 < (d.size : Int) := by omega
          have e4 : (p : Int) < (d.size : Int) := by omega
          have e5 : (0 : Int) ≤ (p : Int) := by omega
          by_cases hl : ltInt x y = true
          · go_wp2
            go_quiet ((go_at_call 79; exact Calls.quiet_of_same (less_any _ _ _)))
            go_wp2
            go_region
            all_goals go_wp2
            go_roundw
            case rel => 
              refine ⟨p, swp dj (p + 1) p, by go_num, by omega, by omega, by rw [size_swp]; exact hsj, ?_, ?_, ?_⟩
              · have := (hRj.drewN nq).swap (p + 1) p
                rw [← HX.out, ← HY.out] at this
                exact this
              · exact grown_setCell (grown_setCell (grown_drewN hgj (nq + 1)) _ _) _ _
              · rw [← HI.out, insInner_go a p dj (by omega) (by rw [← HX.out, ← HY.out]; exact hl)]
            case measure => simp [intOf]
          · have hl' : ltInt x y = false := by simpa using hl
            clear hl
            go_wp2
            go_quiet ((go_at_call 79; exact Calls.quiet_of_same (less_any _ _ _)))
            go_wp2
            go_roundw
            case rel => 
              refine ⟨k + 1, dj, by go_num, by omega, by omega, hsj, hRj.drewN _, grown_drewN hgj _, ?_⟩
              rw [← HO.out, insOuter_go _ _ _ _ hlt, ← HI.out, insInner_no _ _ _ (by rw [← HX.out, ← HY.out]; exact hl')]
            case measure => simp [intOf]; omega
        · obtain rfl : h = a := by omega
          have hd1 : decide ((h : Int) < (h : Int)) = false := by simp
          go_wp2
          go_quiet ((go_at_call 79; exact Calls.quiet_of_same (less_any _ _ _)))
          go_wp2
          go_roundw
          case rel => 
            refine ⟨k + 1, dj, by go_num, by omega, by omega, hsj, hRj.drewN _, grown_drewN hgj _, ?_⟩
            rw [← HO.out, insOuter_go _ _ _ _ hlt, ← HI.out, insInner_end]
          case measure => simp [intOf]; omega
    · go_wp2
      go_end0
      refine ⟨rfl, ?_, hgk⟩
      unfold insertionSort
      rw [← HO.out, insOuter_stop _ _ _ _ hlt]
      exact hRk
theorem reverseLoop_go (i j : Nat) (d : Array Int) (h : i < j) : reverseLoop i j d = reverseLoop (i + 1) (j - 1) (swp d i j) := by rw [reverseLoop, if_pos h]
theorem reverseLoop_stop (i j : Nat) (d : Array Int) (h : ¬ i < j) : reverseLoop i j d = d := by rw [reverseLoop, if_neg h]

set_option maxHeartbeats 1000000 in
theorem reverse_any (g cap a b : Nat) (d : Array Int) (w : World) (ha : a < b) (hb : b ≤ d.size) (hd : d.size ≤ 4096) (hR : Row w g cap d) :
    Calls Yba.prog 77 #[.slice (some ⟨g, 0, none⟩) d.size cap, .int .i64 a, .int .i64 b] w fun e w' => e = .returned (.tuple #[]) ∧ Row w' g cap (reverseRange d a b) ∧ w.grownBy w' (some g) := by
  have hr0 := grown_refl w (some g)
  have hab : (a : Int) < (b : Int) := by omega
  go_enter Yba.func77, Yba.ntmps77
  go_wp2
  go_loopw [6, 7] (fun i j wr => ∃ (p q : Nat) (dk : Array Int), i = .int .i64 p ∧ j = .int .i64 q ∧ q < d.size ∧ p ≤ q + 1 ∧ dk.size = d.size ∧ Row wr g cap dk ∧ w.grownBy wr (some g) ∧ reverseLoop p q dk = reverseLoop a (b - 1) d) (fun i j _ => (intOf j).toNat + 1 - (intOf i).toNat)
  case atStart => exact ⟨a, b - 1, d, rfl, by go_num, by omega, by omega, rfl, hR, hr0, rfl⟩
  case round =>
    obtain ⟨p, q, dk, rfl, rfl, hqd, hpq, hsk, hRk, hgk, hO⟩ := hrel
    have HO : Hid (reverseLoop p q dk = reverseLoop a (b - 1) d) := hO
    clear hO
    by_cases hlt : p < q
    · obtain ⟨q, rfl⟩ : ∃ q', q = q' + 1 := ⟨q - 1, by omega⟩
      obtain ⟨x, hx⟩ : ∃ x, x = dk[p]! := ⟨_, rfl⟩
      obtain ⟨y, hy⟩ : ∃ y, y = dk[q + 1]! := ⟨_, rfl⟩
      have c1 := hRk.cell p (by omega)
      have c2 := hRk.cell (q + 1) (by omega)
      have f1 := hRk.frozen p
      have f2 := hRk.frozen (q + 1)
      rw [← hx] at c1
      rw [← hy] at c2
      have HX : Hid (x = dk[p]!) := hx
      have HY : Hid (y = dk[q + 1]!) := hy
      clear hx hy
      have hne : ¬ p = q + 1 := by omega
      have e2 : (0 : Int) ≤ (q : Int) + 1 := by omega
      have e3 : (q : Int) + 1 < (d.size : Int) := by omega
      have e4 : (p : Int) < (d.size : Int) := by omega
      have e5 : (0 : Int) ≤ (p : Int) := by omega
      go_wp2
      go_region
      all_goals go_wp2
      go_roundw
      case rel =>
        refine ⟨p + 1, q, swp dk p (q + 1), by go_num, by go_num, by omega, by omega, by rw [size_swp]; exact hsk, ?_, ?_, ?_⟩
        · have := hRk.swap p (q + 1)
          rw [← HX.out, ← HY.out] at this
          exact this
        · exact grown_setCell (grown_setCell (grown_drewN hgk 1) _ _) _ _
        · rw [← HO.out, reverseLoop_go _ _ _ hlt, Nat.add_sub_cancel]
      case measure => simp [intOf]; omega
    · go_wp2
      go_end0
      refine ⟨rfl, ?_, hgk⟩
      unfold reverseRange
      rw [← HO.out, reverseLoop_stop _ _ _ hlt]
      exact hRk

theorem sift_stop (hi F root : Nat) (d : Array Int) (h : hi ≤ 2 * root + 1) : Sort.siftDown ltInt hi F root d = d := by rw [Sort.siftDown, dif_pos h]
/-- The greater child. -/
def kid (hi F root : Nat) (d : Array Int) : Nat := if 2 * root + 1 + 1 < hi ∧ ltInt d[F + (2 * root + 1)]! d[F + (2 * root + 1) + 1]! = true then 2 * root + 2 else 2 * root + 1
theorem sift_eq (hi F root : Nat) (d : Array Int) (h : 2 * root + 1 < hi) : Sort.siftDown ltInt hi F root d =
    if ltInt d[F + root]! d[F + kid hi F root d]! = true then Sort.siftDown ltInt hi F (kid hi F root d) (swp d (F + root) (F + kid hi F root d)) else d := by
  rw [Sort.siftDown, dif_neg (by omega)]
  unfold kid
  by_cases hc : 2 * root + 1 + 1 < hi ∧ ltInt d[F + (2 * root + 1)]! d[F + (2 * root + 1) + 1]! = true
  · rw [if_pos (by simpa using hc), if_pos hc]
    by_cases hl : ltInt d[F + root]! d[F + (2 * root + 2)]! = true
    · rw [if_neg (by simp [hl]), dif_pos (by omega), if_pos hl]
    · rw [if_pos (by simpa using hl), if_neg hl]
  · rw [if_neg (by simpa using hc), if_neg hc]
    by_cases hl : ltInt d[F + root]! d[F + (2 * root + 1)]! = true
    · rw [if_neg (by simp [hl]), if_pos hl]
    · rw [if_pos (by simpa using hl), if_neg hl]
theorem kid_lt (hi F root : Nat) (d : Array Int) (h : 2 * root + 1 < hi) : root < kid hi F root d ∧ kid hi F root d < hi := by
  unfold kid
  split <;> omega
end Go.Proofs.Ybulkyyu.CSort
