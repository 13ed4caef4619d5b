/- choosePivot at int32: a place of the range; the row stands. -/
import Derived.Test.YbulkyyuCOrder
import Derived.Test.YbulkyyuCSift
namespace Go.Proofs.Ybulkyyu.CSort
open Go.RowKit Go.Sort

theorem cnt_alloc (w : World) : Cnt (w.alloc (.cells #[.int .i64 0] 3 (0, 0))) w.heap.size := ⟨0, heap_alloc_new w _⟩
theorem grown_alloc (w : World) (o : Obj) (r : Option Nat) : w.grownBy (w.alloc o) r :=
  ⟨rfl, rfl, rfl, by rw [World.size_alloc]; omega, fun k hk _ => heap_alloc_old w _ hk⟩
theorem grown_none {w w1 w2 : World} (h : w.grownBy w1 none) (k : w1.grownBy w2 (some w.heap.size)) : w.grownBy w2 none :=
  ⟨k.os.trans h.os, k.tape.trans h.tape, k.output.trans h.output, Nat.le_trans h.size k.size, fun i hi hne => (k.block i (Nat.lt_of_lt_of_le hi h.size) (fun e => by simp at e; omega)).trans (h.block i hi (by simp))⟩

set_option maxRecDepth 100000 in
set_option maxHeartbeats 4000000 in
theorem pivot_any (g cap a b : Nat) (d : Array Int) (w : World) (hab : a < b) (hb : b ≤ d.size) (hd : d.size ≤ 4096) (hR : Row w g cap d) :
    Calls Yba.prog 76 #[.slice (some ⟨g, 0, none⟩) d.size cap, .int .i64 a, .int .i64 b] w fun e w' =>
      ∃ (x : Nat) (k : Int), e = .returned (.tuple #[.int .i64 x, .int .i64 k]) ∧ (k = 0 ∨ k = 1 ∨ k = 2) ∧ a ≤ x ∧ x < b ∧ w.grownBy w' none := by
  have hg0 := grown_alloc w (.cells #[.int .i64 0] 3 (0, 0)) none
  have hC0 := cnt_alloc w
  have hgg := grown_alloc w (.cells #[.int .i64 0] 3 (0, 0)) (some w.heap.size)
  have hlt := hR.lt
  have hR0 : Row (w.alloc (.cells #[.int .i64 0] 3 (0, 0))) g cap d := hR.grown hgg (by omega)
  obtain ⟨l, hl⟩ : ∃ l, l = b - a := ⟨_, rfl⟩
  have e1 : (b : Int) - (a : Int) = l := by omega
  obtain ⟨q, hq⟩ : ∃ q, q = l / 4 := ⟨_, rfl⟩
  have e2 : (l : Int) / 4 = q := by omega
  have hq4 : 4 * q ≤ l := by omega
  have hl4 : l < 4 * q + 4 := by omega
  have g1 : (a : Int) ≤ 4096 := by omega
  have g2 : (q : Int) ≤ 4096 := by omega
  have g3 : (b : Int) ≤ 4096 := by omega
  have HL : Hid (l = b - a) := hl
  clear hq hl
  go_enter Yba.func76, Yba.ntmps76
  go_upto_if 32 with fail
  go_cut [10, 11, 12] (fun _ s11 _ wx => ∃ x : Nat, s11 = .int .i64 x ∧ a ≤ x ∧ x < b ∧ Cnt wx w.heap.size ∧ w.grownBy wx none)
  case first =>
    by_cases h8 : 8 ≤ l
    · have k8 : (8 : Int) ≤ (l : Int) := by omega
      by_cases h50 : 50 ≤ l
      · have k50 : (50 : Int) ≤ (l : Int) := by omega
        go_wp2_with fail
        have M1 := medianAdj_any g cap w.heap.size (a + q) d (w.alloc (.cells #[.int .i64 0] 3 (0, 0))) (by omega) (by have := HL.out; omega) hd hR0 hC0
        rw [show (((a + q : Nat) : Int)) = (a : Int) + q from by omega] at M1
        refine M1.mono ?_
        rintro e1 w1 ⟨x1, rfl, hx1, hC1, hg1⟩
        go_wp2_with fail
        have M2 := medianAdj_any g cap w.heap.size (a + q * 2) d w1 (by omega) (by have := HL.out; omega) hd (hR0.grown hg1 (by omega)) hC1
        rw [show (((a + q * 2 : Nat) : Int)) = (a : Int) + (q : Int) * 2 from by omega] at M2
        refine M2.mono ?_
        rintro e2 w2 ⟨x2, rfl, hx2, hC2, hg2⟩
        go_wp2_with fail
        have M3 := medianAdj_any g cap w.heap.size (a + q * 3) d w2 (by omega) (by have := HL.out; omega) hd ((hR0.grown hg1 (by omega)).grown hg2 (by omega)) hC2
        rw [show (((a + q * 3 : Nat) : Int)) = (a : Int) + (q : Int) * 3 from by omega] at M3
        refine M3.mono ?_
        rintro e3 w3 ⟨x3, rfl, hx3, hC3, hg3⟩
        go_wp2_with fail
        refine (median_any g cap w.heap.size x1 x2 x3 d w3 (by have := HL.out; omega) (by have := HL.out; omega) (by have := HL.out; omega) (((hR0.grown hg1 (by omega)).grown hg2 (by omega)).grown hg3 (by omega)) hC3).mono ?_
        rintro e4 w4 ⟨x4, rfl, hx4, hC4, hg4⟩
        go_wp2_with fail
        go_meet
        case rel => exact ⟨x4, rfl, by have := HL.out; omega, by have := HL.out; omega, hC4, grown_none (grown_none (grown_none (grown_none hg0 hg1) hg2) hg3) hg4⟩
      · have k50 : (l : Int) < 50 := by omega
        go_wp2_with fail
        have M := median_any g cap w.heap.size (a + q) (a + q * 2) (a + q * 3) d (w.alloc (.cells #[.int .i64 0] 3 (0, 0))) (by have := HL.out; omega) (by have := HL.out; omega) (by have := HL.out; omega) hR0 hC0
        rw [show (((a + q : Nat) : Int)) = (a : Int) + q from by omega, show (((a + q * 2 : Nat) : Int)) = (a : Int) + (q : Int) * 2 from by omega, show (((a + q * 3 : Nat) : Int)) = (a : Int) + (q : Int) * 3 from by omega] at M
        refine M.mono ?_
        rintro e4 w4 ⟨x4, rfl, hx4, hC4, hg4⟩
        go_wp2_with fail
        go_meet
        case rel => exact ⟨x4, rfl, by have := HL.out; omega, by have := HL.out; omega, hC4, grown_none hg0 hg4⟩
    · have k8 : (l : Int) < 8 := by omega
      go_wp2_with fail
      go_meet
      case rel => exact ⟨a + q * 2, by go_num, by have := HL.out; omega, by have := HL.out; omega, hC0, hg0⟩
  case rest =>
    obtain ⟨x, rfl, hx1, hx2, hC1, hg1⟩ := hcut
    obtain ⟨n, hn⟩ := hC1
    have c3 := (cell_of_row _ w.heap.size 0 _ _ _ hn).trans (show _ = some (Value.int .i64 n) from rfl)
    clear hn
    go_wp2
    all_goals go_ret2
    · exact ⟨x, 1, rfl, by omega, hx1, hx2, hg1⟩
    · exact ⟨x, 2, rfl, by omega, hx1, hx2, hg1⟩
    · exact ⟨x, 0, rfl, by omega, hx1, hx2, hg1⟩
end Go.Proofs.Ybulkyyu.CSort
