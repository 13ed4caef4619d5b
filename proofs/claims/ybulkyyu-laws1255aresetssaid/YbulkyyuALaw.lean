/- The walk of LawS1255AResets. -/
import Derived.Test.YbulkyyuAMin
import Derived.Deep.QuietTactic
import Derived.BigQuiet
import Derived.Deep.DeepCutAuto
namespace Go.Proofs.Ybulkyyu.AResets
open Go.RowKit

theorem Yba.info25 : (Yba.prog.info? 25).map (fun i => (i.zero, i.size, i.bytes)) = some (some (.int .i64 0), 1, 8) := by kernel_rfl
theorem Yba.info28 : (Yba.prog.info? 28).map (fun i => (i.zero, i.size, i.bytes)) = some (some (.int .u32 0), 1, 4) := by kernel_rfl
theorem Yba.info71 : (Yba.prog.info? 71).map (fun i => (i.zero, i.size, i.bytes)) = some (some (.agg #[.int .i32 0, .int .i32 0]), 2, 8) := by kernel_rfl

def zer (z : Value) (size n : Nat) : Array Value := madeCells z.cells (n * size)
theorem make_of {t e : TypeId} {z : Value} {size bytes : Nat} (hu : Yba.prog.underlying t = some (.slice e)) (hi : (Yba.prog.info? e).map (fun i => (i.zero, i.size, i.bytes)) = some (some z, size, bytes)) (n : Nat) (hn : n ≤ 1024) (hb : bytes ≤ 8) (W : World) :
    (Instr.makeSlice t (.int .i64 (n : Int)) (.int .i64 (n : Int))).run Yba.prog W = .ok (.slice (some ⟨W.heap.size, 0, none⟩) n n) (W.alloc (.cells (zer z size n) e)) := by
  obtain ⟨i, hi, hz0, hz1, hz2⟩ := info_parts hi
  have hbb : (i.bytes : Int) * (n : Int) ≤ 281474976710656 := by
    rw [hz2]
    have h1 : bytes * n ≤ 8 * 1024 := Nat.mul_le_mul hb hn
    have h2 : ((bytes * n : Nat) : Int) ≤ 281474976710656 := by omega
    rwa [Int.natCast_mul] at h2
  have h := run_make (P := Yba.prog) W t e i z hu hi hz0 .i64 .i64 n n (by omega) (Int.le_refl _) hbb (by omega)
  rw [hz1] at h
  simp only [Int.toNat_natCast] at h
  exact h

theorem rowAt_zer (w : World) (k : IntKind) (n : Nat) (e : TypeId) (z : Nat → Int) : RowAt (w.alloc (.cells (zer (.int k 0) 1 n) e)) w.heap.size n k (fun j => if j < 0 then z j else 0) := by
  intro j hj
  refine ⟨?_, World.frozen?_alloc_at _ _ _ _ rfl⟩
  rw [World.cell?_alloc_at _ _ _ _ rfl]
  simp only [zer, Value.cells, Nat.mul_one]
  have : (madeCells #[Value.int k 0] n)[j]? = (madeCells #[Value.int k 0] n).toList[j]? := by simp
  rw [this, toList_madeCells_one]
  simp [hj]

/-- What 'earliest' is behind unlist. -/
def wnt (e0 : Int) (z : Nat → Int) (n : Nat) : Int := if n = 0 then e0 else mn z n

theorem unlist_any (g b n : Nat) (z : Nat → Int) (c0 c1 c2 c7 c8 l0 k0 : Value) (e0 : Int) (w : World) (hl : n ≤ 1024) (hgb : b < g) (hc : RowAt w b n .i64 z)
    (hg : w.heap[g]? = some (.cells #[c0, c1, c2, .slice (some ⟨b, 0, none⟩) n n, .int .i64 e0, l0, k0, c7, c8] 34 (0, 0))) :
    Calls Yba.prog 9 #[.pointer (some ⟨g, 0, none⟩)] w fun e w' => e = .returned (.tuple #[]) ∧ Below g w w' ∧
      w'.heap[g]? = some (.cells #[c0, c1, c2, .slice (some ⟨b, 0, none⟩) n n, .int .i64 (wnt e0 z n), .bool false, .slice none 0 0, c7, c8] 34 (0, 0)) := by
  have s1 := heap_setCell_same w g 5 _ _ (.bool false) hg
  have s2 := heap_setCell_same _ g 6 _ _ (.slice none 0 0) s1
  have s3 := heap_setCell_same _ g 4 _ _ (.int .i64 (mn z n)) s2
  have b1 := ((Below.refl g w).setCell (p := ⟨g, 5, none⟩) (Nat.le_refl _) (.bool false)).setCell (p := ⟨g, 6, none⟩) (Nat.le_refl _) (.slice none 0 0)
  have b2 := b1.setCell (p := ⟨g, 4, none⟩) (Nat.le_refl _) (.int .i64 (mn z n))
  by_cases hn : n = 0
  · subst hn
    refine (unlist_none g _ _ _ _ _ _ _ _ _ _ w hg).mono ?_
    rintro e w' ⟨rfl, rfl⟩
    exact ⟨rfl, b1, s2⟩
  · refine (unlist_some g b n z _ _ _ _ _ _ _ _ w (by omega) hl hgb hc hg).mono ?_
    rintro e w' ⟨rfl, rfl⟩
    refine ⟨rfl, b2, ?_⟩
    unfold wnt
    rw [if_neg hn]
    exact s3

/-- A slice of n numbers that came in: it is what the law is told of it. -/
def Came (k : IntKind) (w : World) (a : Option Addr) (n : Nat) (z : Nat → Int) : Prop := 0 < n → ∃ b off, a = some ⟨b, off, none⟩ ∧ b < w.heap.size ∧ ∀ j, j < n → w.cell? ⟨b, off + j, none⟩ = some (.int k (z j))

set_option maxRecDepth 100000 in
set_option maxHeartbeats 1000000 in
theorem law_small (a0 : Option Addr) (n c0 : Nat) (z0 : Nat → Int) (a1 : Option Addr) (m c1 : Nat) (z1 : Nat → Int) (a2 a3 a4 a5 : Int) (w : World)
    (hn : n ≤ 1024) (hm : m ≤ 1024) (i0 : Came .i64 w a0 n z0) (i1 : Came .u32 w a1 m z1) :
    Calls Yba.prog 3 #[.slice a0 n c0, .slice a1 m c1, .int .i64 a2, .int .i64 a3, .int .i32 a4, .int .i32 a5] w fun e w' => e = .returned (.bool true) ∧ Below w.heap.size w w' := by
  have mk1 := make_of Yba.underlying24 Yba.info25 n hn (by omega)
  have mk2 := make_of Yba.underlying26 Yba.info28 m hm (by omega)
  have mk3 := make_of Yba.underlying29 Yba.info71 n hn (by omega)
  have q29 : ∀ (w : World) (a : Option Addr) (n c n' c' : Nat), (binOp .neq 29 (.slice a n c) (.slice none n' c')).run Yba.prog w = .ok (.bool (!a.isNone)) w := fun w a n c n' c' => run_neq_slice_nil_any w _ _ a n c n' c' Yba.underlying29
  have q30 : ∀ (w : World) (r : Option Nat), (binOp .neq 30 (.map r) (.map none)).run Yba.prog w = .ok (.bool (!r.isNone)) w := fun w r => run_neq_map_nil w _ _ _ r Yba.underlying30
  go_enter Yba.func3, Yba.ntmps3
  go_wp2
  go_loopw [14] (fun i wr => ∃ k : Nat, k ≤ n ∧ i = .int .i64 k ∧ RowAt wr w.heap.size n .i64 (fun j => if j < k then z0 j else 0) ∧ wr.heap.size = w.heap.size + 1 ∧ Below w.heap.size w wr) (fun i _ => n - (intOf i).toNat)
  case atStart => 
    exact ⟨0, Nat.zero_le _, rfl, rowAt_zer w .i64 n 25 z0, by simp, (Below.refl _ _).alloc (Nat.le_refl _) _⟩
  case round =>
    obtain ⟨k, hk, rfl, hrow, hsz, hbel⟩ := hrel
    by_cases hlt : k < n
    · obtain ⟨b, off, rfl, hb, hcell⟩ := i0 (by omega)
      have hck : wr.cell? ⟨b, off + k, none⟩ = some (.int .i64 (z0 k)) := (hbel.cell hb).trans (hcell k hlt)
      have hd := (hrow k hlt).1
      have hf := (hrow k hlt).2
      have hrow' := hrow.set k (z0 k) (fun j => if j < k + 1 then z0 j else 0) (fun j _ => by by_cases e : j = k <;> by_cases e2 : j < k <;> by_cases e3 : j < k + 1 <;> simp [e, e2, e3] <;> omega)
      have hbel' := hbel.setCell (p := ⟨w.heap.size, k, none⟩) (Nat.le_refl _) (.int .i64 (z0 k))
      clear hrow hcell
      go_wp2
      go_roundw
      case rel => exact ⟨k + 1, by omega, by go_num, hrow', by simp [hsz], hbel'⟩
      case measure => simp [intOf]; omega
    · obtain rfl : k = n := by omega
      replace hrow := hrow.congr (z' := z0) (fun j hj => by simp [hj])
      clear hk hlt
      go_wp2
      go_loopw [16] (fun i wr => ∃ j : Nat, j ≤ m ∧ i = .int .i64 j ∧ RowAt wr (w.heap.size + 1) m .u32 (fun i => if i < j then z1 i else 0) ∧ RowAt wr w.heap.size k .i64 z0 ∧ wr.heap.size = w.heap.size + 2 ∧ Below w.heap.size w wr) (fun i _ => m - (intOf i).toNat)
      case atStart => 
        refine ⟨0, Nat.zero_le _, rfl, ?_, hrow.same (Below.heap_alloc _ _ _ (by omega)), by simp [hsz], hbel.alloc (by omega) _⟩
        have := rowAt_zer wr .u32 m 28 z1
        rw [hsz] at this
        exact this
      case round =>
        obtain ⟨j, hj, rfl, hrow1, hrow, hsz, hbel⟩ := hrel
        by_cases hlt : j < m
        · obtain ⟨b, off, rfl, hb, hcell⟩ := i1 (by omega)
          have hck : wr.cell? ⟨b, off + j, none⟩ = some (.int .u32 (z1 j)) := (hbel.cell hb).trans (hcell j hlt)
          have hd := (hrow1 j hlt).1
          have hf := (hrow1 j hlt).2
          have hrow' := hrow1.set j (z1 j) (fun i => if i < j + 1 then z1 i else 0) (fun i _ => by by_cases e : i = j <;> by_cases e2 : i < j <;> by_cases e3 : i < j + 1 <;> simp [e, e2, e3] <;> omega)
          have hrow2 := hrow.same (heap_setCell_other wr ⟨w.heap.size + 1, j, none⟩ w.heap.size (.int .u32 (z1 j)) (by show w.heap.size ≠ w.heap.size + 1; omega))
          have hbel' := hbel.setCell (p := ⟨w.heap.size + 1, j, none⟩) (by show w.heap.size ≤ w.heap.size + 1; omega) (.int .u32 (z1 j))
          clear hrow1 hrow hcell
          go_wp2
          go_roundw
          case rel => exact ⟨j + 1, by omega, by go_num, hrow', hrow2, by simp [hsz], hbel'⟩
          case measure => simp [intOf]; omega
        · obtain rfl : j = m := by omega
          replace hrow1 := hrow1.congr (z' := z1) (fun i hi => by simp [hi])
          clear hj hlt
          go_wp2_with fail
          have hrA := (hrow.same (Below.heap_alloc wr (.cells (zer (.agg #[.int .i32 0, .int .i32 0]) 2 k) 71) w.heap.size (by omega))).same (Below.heap_alloc _ (.cells #[.int .i64 a3, .slice (some ⟨w.heap.size + 1, 0, none⟩) j j, .map none, .slice (some ⟨w.heap.size, 0, none⟩) k k, .int .i64 a2, .bool true, .slice (some ⟨w.heap.size + 2, 0, none⟩) k k, .int .i64 (wrap64 a4), .int .i64 (wrap64 a5)] 34) w.heap.size (by simp; omega))
          have hrK := (hrow1.same (Below.heap_alloc wr (.cells (zer (.agg #[.int .i32 0, .int .i32 0]) 2 k) 71) (w.heap.size + 1) (by omega))).same (Below.heap_alloc _ (.cells #[.int .i64 a3, .slice (some ⟨w.heap.size + 1, 0, none⟩) j j, .map none, .slice (some ⟨w.heap.size, 0, none⟩) k k, .int .i64 a2, .bool true, .slice (some ⟨w.heap.size + 2, 0, none⟩) k k, .int .i64 (wrap64 a4), .int .i64 (wrap64 a5)] 34) (w.heap.size + 1) (by simp; omega))
          have hg := heap_alloc_new (wr.alloc (.cells (zer (.agg #[.int .i32 0, .int .i32 0]) 2 k) 71)) (.cells #[.int .i64 a3, .slice (some ⟨w.heap.size + 1, 0, none⟩) j j, .map none, .slice (some ⟨w.heap.size, 0, none⟩) k k, .int .i64 a2, .bool true, .slice (some ⟨w.heap.size + 2, 0, none⟩) k k, .int .i64 (wrap64 a4), .int .i64 (wrap64 a5)] 34)
          have hbB := ((hbel.alloc (by omega) (.cells (zer (.agg #[.int .i32 0, .int .i32 0]) 2 k) 71)).alloc (by simp; omega) (.cells #[.int .i64 a3, .slice (some ⟨w.heap.size + 1, 0, none⟩) j j, .map none, .slice (some ⟨w.heap.size, 0, none⟩) k k, .int .i64 a2, .bool true, .slice (some ⟨w.heap.size + 2, 0, none⟩) k k, .int .i64 (wrap64 a4), .int .i64 (wrap64 a5)] 34))
          rw [World.size_alloc, hsz] at hg
          refine (unlist_any (w.heap.size + 2 + 1) w.heap.size k z0 _ _ _ _ _ _ _ a2 _ hn (by omega) hrA hg).mono ?_
          rintro e w1 ⟨rfl, hb1, hg1⟩
          replace hrA := hrA.same (hb1.block w.heap.size (by omega))
          replace hrK := hrK.same (hb1.block (w.heap.size + 1) (by omega))
          replace hbB := hbB.trans (hb1.mono (by omega))
          have t0 := cell_of_row w1 _ 0 _ _ _ hg1
          have t1 := cell_of_row w1 _ 1 _ _ _ hg1
          have t2 := cell_of_row w1 _ 2 _ _ _ hg1
          have t3 := cell_of_row w1 _ 3 _ _ _ hg1
          have t4 := cell_of_row w1 _ 4 _ _ _ hg1
          have t5 := cell_of_row w1 _ 5 _ _ _ hg1
          have t6 := cell_of_row w1 _ 6 _ _ _ hg1
          have t7 := cell_of_row w1 _ 7 _ _ _ hg1
          have t8 := cell_of_row w1 _ 8 _ _ _ hg1
          simp at t0 t1 t2 t3 t4 t5 t6 t7 t8
          clear hg1 hb1 hg hrow hrow1 hbel hsz mk1 mk2 mk3
          go_upto_if 81 with fail
          go_cut [19] (fun s19 wx => s19 = .int .i64 (wnt a2 z0 k) ∧ wx = w1)
          case first =>
            by_cases hk0 : k = 0
            · subst hk0
              go_wp2
              go_meet
              case rel => exact ⟨rfl, rfl⟩
            · have hwn : wnt a2 z0 k = mn z0 k := if_neg hk0
              have HW : Hid (wnt a2 z0 k = mn z0 k) := hwn
              clear hwn t0 t1 t2 t3 t4 t5 t6 t7 t8 q29 q30 hrA hrK
              obtain ⟨b, off, rfl, hb, hcell⟩ := i0 (by omega)
              have hc0 : w1.cell? ⟨b, off, none⟩ = some (.int .i64 (z0 0)) := (hbB.cell hb).trans (hcell 0 (by omega))
              go_wp2
              go_loop [19, 20] (fun m i => ∃ h : Nat, h ≤ k ∧ i = .int .i64 h ∧ m = .int .i64 (mn z0 h)) (fun _ i => k - (intOf i).toNat)
              case atStart => exact ⟨1, by omega, rfl, by rw [mn_one]⟩
              case round =>
                obtain ⟨h, hh, rfl, rfl⟩ := hrel
                by_cases hlt : h < k
                · have hck : w1.cell? ⟨b, off + h, none⟩ = some (.int .i64 (z0 h)) := (hbB.cell hb).trans (hcell h hlt)
                  go_wp2
                  all_goals
                    go_round
                    case rel => exact ⟨h + 1, by omega, by go_num, by first | rw [mn, if_pos (by assumption)] | rw [mn, if_neg (by omega)]⟩
                    case measure => simp [intOf]; omega
                · obtain rfl : h = k := by omega
                  go_wp2
                  go_meet
                  case rel => exact ⟨by rw [HW.out], rfl⟩
          case rest =>
            obtain ⟨rfl, rfl⟩ := hcut
            go_wp2
            go_loopw [21] (fun i wr => ∃ h : Nat, h ≤ k ∧ i = .int .i64 h ∧ ∃ q, wr = wc.drewN q) (fun i _ => k - (intOf i).toNat)
            case atStart => exact ⟨0, Nat.zero_le _, rfl, 0, rfl⟩
            case round =>
              obtain ⟨h, hh, rfl, q, rfl⟩ := hrel
              by_cases hlt : h < k
              · obtain ⟨b, off, rfl, hb, hcell⟩ := i0 (by omega)
                have hck : wc.cell? ⟨b, off + h, none⟩ = some (.int .i64 (z0 h)) := (hbB.cell hb).trans (hcell h hlt)
                have hd := (hrA h hlt).1
                have hlt' : (h : Int) < (k : Int) := by omega
                have hlt0 : (0 : Int) ≤ (h : Int) := by omega
                go_wp2
                go_quiet (fail)
                go_wp2
                go_roundw
                case rel => exact ⟨h + 1, by omega, by go_num, _, rfl⟩
                case measure => simp [intOf]; omega
              · go_wp2
                go_loopw [22] (fun i wr => ∃ h : Nat, h ≤ j ∧ i = .int .i64 h ∧ ∃ q, wr = wc.drewN q) (fun i _ => j - (intOf i).toNat)
                case atStart => exact ⟨0, Nat.zero_le _, rfl, _, rfl⟩
                case round =>
                  obtain ⟨h2, hh2, rfl, q2, rfl⟩ := hrel
                  by_cases hlt2 : h2 < j
                  · obtain ⟨b, off, rfl, hb, hcell⟩ := i1 (by omega)
                    have hck : wc.cell? ⟨b, off + h2, none⟩ = some (.int .u32 (z1 h2)) := (hbB.cell hb).trans (hcell h2 hlt2)
                    have hd := (hrK h2 hlt2).1
                    have hlt' : (h2 : Int) < (j : Int) := by omega
                    have hlt0 : (0 : Int) ≤ (h2 : Int) := by omega
                    go_wp2
                    go_quiet (fail)
                    go_wp2
                    go_roundw
                    case rel => exact ⟨h2 + 1, by omega, by go_num, _, rfl⟩
                    case measure => simp [intOf]; omega
                  · go_wp2
                    go_ret
                    exact ⟨rfl, below_drewN hbB _⟩

set_option maxRecDepth 100000 in
/-- More than 1024 numbers in one of the two: true at once. -/
theorem law_big (a0 : Option Addr) (n c0 : Nat) (a1 : Option Addr) (m c1 : Nat) (a2 a3 a4 a5 : Int) (w : World) (h : 1024 < n ∨ 1024 < m) :
    Calls Yba.prog 3 #[.slice a0 n c0, .slice a1 m c1, .int .i64 a2, .int .i64 a3, .int .i32 a4, .int .i32 a5] w fun e w' => e = .returned (.bool true) ∧ Below w.heap.size w w' := by
  by_cases h1 : 1024 < n
  · go_enter Yba.func3, Yba.ntmps3
    go_wp2
    go_ret
    exact ⟨rfl, Below.refl _ _⟩
  · have h2 : 1024 < m := by omega
    go_enter Yba.func3, Yba.ntmps3
    go_wp2
    go_ret
    exact ⟨rfl, Below.refl _ _⟩

/-- Out of the shell's word on a slice of numbers. -/
theorem came_of {k : IntKind} {w : World} {a : Option Addr} {n cap : Nat} {zs : List Int}
    (h : (a = none ∧ n = 0 ∧ cap = 0 ∧ zs = []) ∨ ∃ x, a = some x ∧ n ≤ cap ∧ cap ≤ maxLen ∧ zs.length = cap ∧ (∀ i, i < zs.length → w.cell? (x.add i) = some (.int k (zs.getD i 0))) ∧ ∀ n ∈ zs, (Lit.int k n).wf = true) :
    Came k w a n (fun j => zs.getD j 0) := by
  intro hn
  rcases h with ⟨_, h, _⟩ | ⟨x, rfl, hl, _, hz, hc, _⟩
  · omega
  · obtain ⟨b, off, spot⟩ := x
    have hspot : spot = none := by simpa [Addr.add] using World.cell?_spot (hc 0 (by omega))
    subst hspot
    have hc' : ∀ j, j < zs.length → w.cell? ⟨b, off + j, none⟩ = some (.int k (zs.getD j 0)) := fun j hj => by
      have e : (⟨b, off, none⟩ : Addr).add j = ⟨b, off + j, none⟩ := by
        by_cases h0 : j = 0 <;> simp [Addr.add, h0]
      rw [← e]
      exact hc j hj
    refine ⟨b, off, rfl, ?_, fun j hj => hc' j (by omega)⟩
    exact block_lt_of_cell (hc' 0 (by omega))
end Go.Proofs.Ybulkyyu.AResets
