/- breakPatternsOrdered at int32: only that the row is turned within the range. -/
import Derived.Test.YbulkyyuCBits
import Derived.Laws.Bits64b
import Derived.Deep.CutBlock
namespace Go.Proofs.Ybulkyyu.CSort
open Go.RowKit Go.Sort

theorem grown_new {w w1 w2 : World} {r : Option Nat} {h : Nat} (k1 : w.grownBy w1 r) (k2 : w1.grownBy w2 (some h)) (hh : w.heap.size ≤ h) : w.grownBy w2 r :=
  ⟨k2.os.trans k1.os, k2.tape.trans k1.tape, k2.output.trans k1.output, Nat.le_trans k1.size k2.size, fun i hi hne => (k2.block i (Nat.lt_of_lt_of_le hi k1.size) (fun e => by simp at e; omega)).trans (k1.block i hi hne)⟩

set_option maxRecDepth 100000 in
set_option maxHeartbeats 4000000 in
theorem break_any (g cap a b : Nat) (d : Array Int) (w : World) (hab : a ≤ b) (hb : b ≤ d.size) (hd : d.size ≤ 4096) (hR : Row w g cap d) :
    Calls Yba.prog 75 #[.slice (some ⟨g, 0, none⟩) d.size cap, .int .i64 a, .int .i64 b] w fun e w' =>
      ∃ d' : Array Int, e = .returned (.tuple #[]) ∧ Row w' g cap d' ∧ PermIn a b d d' ∧ w.grownBy w' (some g) := by
  have hr0 := grown_refl w (some g)
  obtain ⟨l, hl⟩ : ∃ l, l = b - a := ⟨_, rfl⟩
  have e1 : (b : Int) - (a : Int) = l := by omega
  obtain ⟨q, hq⟩ : ∃ q, q = l / 4 := ⟨_, rfl⟩
  have e2 : (l : Int) / 4 = q := by omega
  have hq4 : 4 * q ≤ l := by omega
  have hl4 : l < 4 * q + 4 := by omega
  have hlb : l ≤ 4096 := by omega
  have g1 : (a : Int) ≤ 4096 := by omega
  have g2 : (q : Int) ≤ 4096 := by omega
  have g3 : (b : Int) ≤ 4096 := by omega
  have g4 : (l : Int) ≤ 4096 := by omega
  have HL : Hid (l = b - a) := hl
  clear hq hl
  by_cases h8 : 8 ≤ l
  · have k8 : (8 : Int) ≤ (l : Int) := by omega
    have hg0 := grown_alloc w (.cells #[.int .u64 l] 160 (0, 0)) (some g)
    have hn0 := heap_alloc_new w (.cells #[.int .u64 l] 160 (0, 0))
    have hR0 : Row (w.alloc (.cells #[.int .u64 l] 160 (0, 0))) g cap d := hR.same (heap_alloc_old w _ hR.lt)
    have hq2 : 2 ≤ q := by omega
    go_enter Yba.func75, Yba.ntmps75
    go_wp2_with fail
    refine (power_any l _ hlb).mono ?_
    rintro e w1 ⟨p, rfl, rfl, hp0, hp1, hp2⟩
    go_wp2_with fail
    go_loopw [9] (fun s9 wr => ∃ (i x : Nat) (D : Array Int), s9 = .int .i64 i ∧ a + q * 2 ≤ i + 1 ∧ i ≤ a + q * 2 + 2 ∧ D.size = d.size ∧ Row wr g cap D ∧ PermIn a b d D ∧ wr.heap[w.heap.size]? = some (.cells #[.int .u64 x] 160 (0, 0)) ∧ w.grownBy wr (some g)) (fun s9 _ => a + q * 2 + 3 - (intOf s9).toNat)
    case atStart => exact ⟨a + q * 2 - 1, l, d, by go_num, by omega, by omega, rfl, hR0, permIn_refl _ _ _, hn0, hg0⟩
    case round =>
      obtain ⟨i, x, D, rfl, hi1, hi2, hsz, hRD, hPD, hx, hgD⟩ := hrel
      have hlt := hR.lt
      clear hR0 hn0 hg0
      by_cases hi : i ≤ a + q * 2 + 1
      · have k1 : (i : Int) ≤ (a : Int) + (q : Int) * 2 + 1 := by omega
        have k2 : (p : Int) ≤ 8192 := by omega
        have k3 : 1 ≤ (p : Int) := by omega
        obtain ⟨pm, hpm⟩ : ∃ pm, p = pm + 1 := ⟨p - 1, by omega⟩
        have k6 : (p : Int) - 1 = (pm : Int) := by omega
        have HPM : Hid (p = pm + 1) := hpm
        have hmask := fun y : Nat => fun hy : y < 18446744073709551616 => bits_and_u64_nat y pm hy (by omega)
        go_wp2_with fail
        refine (xor_any w.heap.size x wr hx).mono ?_
        rintro e w2 ⟨y, rfl, hy, hx2, hg2⟩
        have hm := hmask y hy
        have hle : y &&& pm ≤ pm := Nat.and_le_right
        obtain ⟨o, ho⟩ : ∃ o, o = y &&& pm := ⟨_, rfl⟩
        rw [← ho] at hm hle
        have hol : o < 2 * l := by have := hp1 (by omega); omega
        clear ho hmask hpm
        have k4 : (o : Int) ≤ 8192 := by omega
        have hR2 : Row w2 g cap D := hRD.grown hg2 (by omega)
        have hgw2 := grown_new hgD hg2 (Nat.le_refl _)
        clear hx hg2 hRD hgD
        go_upto_if 43 with fail
        go_cut [10] (fun s10 wx => ∃ o : Nat, s10 = .int .i64 o ∧ o < l ∧ wx = w2)
        case first =>
          by_cases hol : l ≤ o
          · have k5 : (l : Int) ≤ (o : Int) := by omega
            go_wp2
            go_meet
            case rel => exact ⟨o - l, by go_num, by omega, rfl⟩
          · have k5 : (o : Int) < (l : Int) := by omega
            go_wp2
            go_meet
            case rel => exact ⟨o, rfl, by omega, rfl⟩
        case rest =>
          obtain ⟨o, rfl, hol, rfl⟩ := hcut
          have hlb2 : a + l ≤ b := by have := HL.out; omega
          obtain ⟨u, hu⟩ : ∃ u, u = D[i]! := ⟨_, rfl⟩
          obtain ⟨v, hv⟩ : ∃ v, v = D[a + o]! := ⟨_, rfl⟩
          have c1 := hR2.cell i (by omega)
          have c2 := hR2.cell (a + o) (by omega)
          have f1 := hR2.frozen i
          have f2 := hR2.frozen (a + o)
          have hSw := hR2.swap i (a + o)
          have hPw := permIn_trans _ _ _ _ _ hPD (swp_permIn D a b i (a + o) (by omega) (by omega) (by omega) (by omega) (by omega))
          rw [← hu] at c1 hSw
          rw [← hv] at c2 hSw
          have hs2 : (swp D i (a + o)).size = d.size := by rw [size_swp]; exact hsz
          generalize swp D i (a + o) = D2 at hSw hPw hs2
          clear hu hv
          obtain ⟨vv, hvv⟩ := cell?_setCell_some (p := ⟨g, i, none⟩) (x := .int .i32 v) c2
          have hxs := fun y1 y2 : Value => ((heap_setCell_other ((wc.setCell ⟨g, i, none⟩ y1)) ⟨g, a + o, none⟩ w.heap.size y2 (Nat.ne_of_gt hlt)).trans (heap_setCell_other wc ⟨g, i, none⟩ w.heap.size y1 (Nat.ne_of_gt hlt))).trans hx2
          have hgw := grown_setCell (grown_setCell (grown_drewN hgw2 1) i (.int .i32 v)) (a + o) (.int .i32 u)
          have w1 : IntKind.i64.wrap ((a : Int) + (o : Int)) = (a : Int) + (o : Int) := wrap_small (by omega) (by omega)
          have w2 : ((a : Int) + (o : Int)).toNat = a + o := by omega
          have n1 : (0 : Int) ≤ (a : Int) + (o : Int) := by omega
          have n2 : (a : Int) + (o : Int) < (d.size : Int) := by omega
          have n3 : (i : Int) < (d.size : Int) := by omega
          go_wp2
          go_region
          go_wp2
          go_roundw
          case rel =>
            exact ⟨i + 1, y, D2, by go_num, by omega, by omega, hs2, hSw, hPw, hxs _ _, hgw⟩
          case measure => simp [intOf]; omega
      · have k1 : (a : Int) + (q : Int) * 2 + 1 < (i : Int) := by omega
        go_wp2
        go_end0
        exact ⟨D, rfl, hRD, hPD, hgD⟩
  · have k8 : (l : Int) < 8 := by omega
    go_enter Yba.func75, Yba.ntmps75
    go_wp2
    go_end0
    exact ⟨d, rfl, hR, permIn_refl _ _ _, hr0⟩
end Go.Proofs.Ybulkyyu.CSort
