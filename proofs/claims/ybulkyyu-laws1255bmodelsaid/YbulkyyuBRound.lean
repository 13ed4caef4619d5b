/- LawS1255BRoundTrip: the walk. -/
import Derived.Test.YbulkyyuBSpans
import Derived.OpenShut
namespace Go.Proofs.Ybulkyyu.BSpans
open Go.RowKit

/-- A slice of n numbers at address a holds the numbers z. -/
def At (k : IntKind) (w : World) (a : Option Addr) (n : Nat) (z : Nat → Int) : Prop := 0 < n → ∃ b off, a = some ⟨b, off, none⟩ ∧ ∀ j, j < n → w.cell? ⟨b, off + j, none⟩ = some (.int k (z j))

set_option maxHeartbeats 400000 in
theorem equal_u32 (x y : Option Addr) (n c1 c2 : Nat) (z : Nat → Int) (w : World) (hn : n ≤ 1024) (hx : At .u32 w x n z) (hy : At .u32 w y n z) :
    Calls Yba.prog 18 #[.slice x n c1, .slice y n c2] w fun e w' => e = .returned (.bool true) ∧ ∃ q, w' = w.drewN q := by
  go_enter Yba.func18, Yba.ntmps18
  go_wp2
  go_loopw [5, 13] (fun _ i wr => ∃ k : Nat, k ≤ n ∧ i = .int .i64 k ∧ ∃ q, wr = w.drewN q) (fun _ i _ => n - (intOf i).toNat)
  case atStart => exact ⟨0, Nat.zero_le _, rfl, 0, rfl⟩
  case round =>
    obtain ⟨k, hk, rfl, q, rfl⟩ := hrel
    by_cases hlt : k < n
    · obtain ⟨b1, o1, rfl, hc1⟩ := hx (by omega)
      obtain ⟨b2, o2, rfl, hc2⟩ := hy (by omega)
      have h1 := hc1 k hlt
      have h2 := hc2 k hlt
      have e1 : (0 : Int) ≤ (k : Int) := by omega
      have e2 : (k : Int) < (n : Int) := by omega
      clear hc1 hc2
      go_wp2
      go_quiet (fail)
      go_wp2
      go_roundw
      case rel => exact ⟨k + 1, by omega, by go_num, _, rfl⟩
      case measure => simp [intOf]; omega
    · go_wp2
      go_ret
      exact ⟨rfl, _, rfl⟩

def row (z : Nat → Int) (t : Nat) : List Value := (List.range t).map fun j => .int .u32 (z j)
theorem row_succ (z : Nat → Int) (t : Nat) : row z (t + 1) = row z t ++ [.int .u32 (z t)] := by simp [row, List.range_succ]
theorem row_get (z : Nat → Int) (t j : Nat) (h : j < t) : (row z t)[j]? = some (.int .u32 (z j)) := by simp [row, h]

theorem cells_len (o r : Int) (z : Nat → Int) (l : List (Nat × Nat)) : (cellsOf o r z l).length = l.length * 4 := by
  induction l with
  | nil => rfl
  | cons p t ih => simp [cellsOf, spanCells] at ih ⊢; omega

theorem cells_get (o r : Int) (z : Nat → Int) (l : List (Nat × Nat)) : ∀ (s : Nat) (h : s < l.length), (cellsOf o r z l)[s * 4]? = some (.int .u32 o) ∧ (cellsOf o r z l)[s * 4 + 1]? = some (.int .u32 r) ∧ (cellsOf o r z l)[s * 4 + 2]? = some (.int .u32 (z l[s].1)) ∧ (cellsOf o r z l)[s * 4 + 3]? = some (.int .u32 (z l[s].2)) := by
  induction l with
  | nil => intro s h; simp at h
  | cons p t ih =>
    intro s h
    have e : cellsOf o r z (p :: t) = [.int .u32 o, .int .u32 r, .int .u32 (z p.1), .int .u32 (z p.2)] ++ cellsOf o r z t := by simp [cellsOf, spanCells]
    cases s with
    | zero => simp [e]
    | succ s =>
      have := ih s (by simpa using h)
      rw [e, List.getElem?_append_right (by simp; omega), List.getElem?_append_right (by simp; omega), List.getElem?_append_right (by simp; omega), List.getElem?_append_right (by simp; omega)]
      simp only [List.length_cons, List.length_nil, List.getElem_cons_succ]
      rw [show (s + 1) * 4 - (0 + 1 + 1 + 1 + 1) = s * 4 by omega, show (s + 1) * 4 + 1 - (0 + 1 + 1 + 1 + 1) = s * 4 + 1 by omega, show (s + 1) * 4 + 2 - (0 + 1 + 1 + 1 + 1) = s * 4 + 2 by omega, show (s + 1) * 4 + 3 - (0 + 1 + 1 + 1 + 1) = s * 4 + 3 by omega]
      exact this

/-- Consecutive numbers: the place tells the number. -/
theorem cons_run (z : Nat → Int) (i j : Nat) (hij : i ≤ j) (hz : ∀ s, 0 ≤ z s ∧ z s < 4294967296) (hc : ∀ s, i ≤ s → s < j → cons z s = true) : z j = (z i + ((j : Int) - (i : Int))) % 4294967296 := by
  obtain ⟨d, rfl⟩ : ∃ d, j = i + d := ⟨j - i, by omega⟩
  induction d with
  | zero => have := hz i; simp; omega
  | succ d ih =>
    have h1 := ih (by omega) (fun s a b => hc s a (by omega))
    have h2 := hc (i + d) (by omega) (by omega)
    simp only [cons, beq_iff_eq] at h2
    have h3 : z (i + (d + 1)) = (z (i + d) + 1) % 4294967296 := by rw [h2]; rfl
    rw [h3, h1]
    omega

theorem Yba.info27 : (Yba.prog.info? 27).map (fun i => (i.zero, i.size, i.bytes)) = some (some (.int .u32 0), 1, 4) := by kernel_rfl
def zer (z : Value) (size n : Nat) : Array Value := madeCells z.cells (n * size)
theorem make27 (n : Nat) (hn : n ≤ 1024) (W : World) :
    (Instr.makeSlice 23 (.int .i64 0) (.int .i64 ((n : Int) + 1))).run Yba.prog W = .ok (.slice (some ⟨W.heap.size, 0, none⟩) 0 (n + 1)) (W.alloc (.cells (zer (.int .u32 0) 1 (n + 1)) 27)) := by
  obtain ⟨i, hi, hz0, hz1, hz2⟩ := info_parts Yba.info27
  have h := run_make (P := Yba.prog) W 23 27 i (.int .u32 0) Yba.underlying23 hi hz0 .i64 .i64 0 ((n : Int) + 1) (by omega) (by omega) (by rw [hz2]; omega) (by omega)
  rw [hz1, show ((n : Int) + 1).toNat = n + 1 by omega] at h
  exact h
theorem owns27 (W : World) (n : Nat) (hn : n ≤ 1024) : (W.alloc (.cells (zer (.int .u32 0) 1 (n + 1)) 27)).ownsRow W.heap.size 27 1 (.slice (some ⟨W.heap.size, 0, none⟩) 0 (n + 1)) 0 [] :=
  World.ownsRow_made W _ (n + 1) (Nat.le_refl _) (by unfold maxLen; omega) (by simp [zer, size_madeCells])

/-- What the spans' slice is, and where its spans lie. -/
theorem spans_form {w : World} {base : Nat} {v : Value} {o r : Int} {z : Nat → Int} {l : List (Nat × Nat)} (h : w.ownsRow base 47 4 v (0 + l.length) ([] ++ cellsOf o r z l)) :
    ∃ ga cap, v = .slice ga l.length cap ∧ (0 < l.length → ∃ g, ga = some ⟨g, 0, none⟩ ∧ base ≤ g ∧ g < w.heap.size ∧ ∀ s (hs : s < l.length), w.cell? ⟨g, s * 4, none⟩ = some (.int .u32 o) ∧ w.cell? ⟨g, s * 4 + 1, none⟩ = some (.int .u32 r) ∧ w.cell? ⟨g, s * 4 + 2, none⟩ = some (.int .u32 (z l[s].1)) ∧ w.cell? ⟨g, s * 4 + 3, none⟩ = some (.int .u32 (z l[s].2))) := by
  rw [Nat.zero_add, List.nil_append] at h
  by_cases hl : 0 < l.length
  · obtain ⟨g, cap, rfl, hb, hlt⟩ := h.form hl
    refine ⟨_, cap, rfl, fun _ => ⟨g, rfl, hb, hlt, fun s hs => ?_⟩⟩
    have hg := cells_get o r z l s hs
    rw [h.cellAt (s * 4) (by omega), h.cellAt (s * 4 + 1) (by omega), h.cellAt (s * 4 + 2) (by omega), h.cellAt (s * 4 + 3) (by omega)]
    exact hg
  · rcases h.2 with ⟨rfl, h0⟩ | ⟨g, cap, cur, rfl, _⟩
    · exact ⟨none, 0, by rw [h0], fun h => absurd h hl⟩
    · exact ⟨_, cap, rfl, fun h => absurd h hl⟩

theorem box_kept {wr w2 : World} {O : Obj} {b B2 o : Nat} {v : Value} (hgr : (wr.alloc O).grownBy w2 (some B2)) (h : wr.cell? ⟨b, o, none⟩ = some v) (hb : b < wr.heap.size) (hne : B2 ≠ b) : w2.cell? ⟨b, o, none⟩ = some v := by
  refine hgr.cell ?_ (by simp; omega)
  rw [World.cell?_alloc_past _ _ _ hb]
  exact h
def lenOf : Value → Nat | .slice _ n _ => n | _ => 0
set_option maxRecDepth 100000 in
set_option maxHeartbeats 1000000 in
theorem round_small (k : Int) (a : Option Addr) (n c : Nat) (z : Nat → Int) (w : World) (hn : n ≤ 1024) (hz : ∀ s, 0 ≤ z s ∧ z s < 4294967296) (hc : Came w.heap.size .u32 w a n z) :
    Calls Yba.prog 6 #[.int .u64 k, .slice a n c] w fun e w' => e = .returned (.bool true) ∧ Below w.heap.size w w' := by
  have mk := make27 n hn
  go_enter Yba.func6, Yba.ntmps6
  go_wp2_with fail
  refine (spans_any w.heap.size (.slice none 0 0) 0 [] k a n c z w hn (by omega) (World.ownsRow_nil _ _ _ _) (Nat.le_refl _) hc).mono ?_
  rintro e w1 ⟨v', rfl, how, hbel⟩
  obtain ⟨ga, cap, rfl, hform⟩ := spans_form how
  have hch := ix_chain z n
  have hlen := (ix_len z n).1
  clear how
  generalize ix z n = l at hform hch hlen ⊢
  have hsz := hbel.size
  go_wp2_with fail
  obtain ⟨i7, hi7, hz70, hz71, hz72⟩ := info_parts Yba.info27
  go_loopw [6, 22] (fun bk i wr => ∃ s t : Nat, s ≤ l.length ∧ i = .int .i64 s ∧ bk = .slice (some ⟨w1.heap.size, 0, none⟩) t (n + 1) ∧ Chain z t (l.drop s) n ∧ wr.ownsRow w1.heap.size 27 1 (.slice (some ⟨w1.heap.size, 0, none⟩) t (n + 1)) t (row z t) ∧ Below w1.heap.size w1 wr) (fun _ i _ => l.length - (intOf i).toNat)
  case atStart => exact ⟨0, 0, Nat.zero_le _, rfl, rfl, hch, owns27 w1 n hn, (Below.refl _ _).alloc (Nat.le_refl _) _⟩
  case round =>
    obtain ⟨s, t, hs, rfl, rfl, hcs, how, hb1⟩ := hrel
    by_cases hlt : s < l.length
    · obtain ⟨g, rfl, hg1, hg2, hcell⟩ := hform (by omega)
      obtain ⟨k0, k1, k2, k3⟩ := hcell s hlt
      rw [List.drop_eq_getElem_cons hlt] at hcs
      generalize hq : l[s] = q at k2 k3 hcs
      obtain ⟨i, j⟩ := q
      obtain ⟨rfl, hij, hcon, hrest⟩ := hcs
      have hjn := chain_le z _ _ _ hrest
      clear hq
      have c0 : wr.cell? ⟨g, s * 4, none⟩ = some (.int .u32 (k / 4294967296 % 4294967296)) := (hb1.cell hg2).trans k0
      have c1 : wr.cell? ⟨g, s * 4 + 1, none⟩ = some (.int .u32 (k % 4294967296)) := (hb1.cell hg2).trans k1
      have c2 : wr.cell? ⟨g, s * 4 + 2, none⟩ = some (.int .u32 (z i)) := (hb1.cell hg2).trans k2
      have c3 : wr.cell? ⟨g, s * 4 + 3, none⟩ = some (.int .u32 (z j)) := (hb1.cell hg2).trans k3
      clear hcell k0 k1 k2 k3
      have hszr := hb1.size
      obtain ⟨wo, rfl⟩ : ∃ wo : World, wo = wr := ⟨_, rfl⟩
      have how0 := how
      go_wp2_with fail
      go_loopw [6, 9] (fun bk x wr => ∃ t : Nat, i ≤ t ∧ t ≤ j ∧ x = .int .u32 (z t) ∧ bk = .slice (some ⟨w1.heap.size, 0, none⟩) t (n + 1) ∧ wr.ownsRow w1.heap.size 27 1 (.slice (some ⟨w1.heap.size, 0, none⟩) t (n + 1)) t (row z t) ∧ wr.cell? ⟨wo.heap.size, 3, none⟩ = some (.int .u32 (z j)) ∧ wo.heap.size < wr.heap.size ∧ Below w1.heap.size w1 wr) (fun bk _ _ => n - lenOf bk)
      case atStart => exact ⟨i, Nat.le_refl _, hij, rfl, rfl, how.alloc _, by simp [World.cell?_alloc_at], by simp, hb1.alloc hszr _⟩
      case round =>
        obtain ⟨t, ht1, ht2, rfl, rfl, how, hbx, hbs, hb1⟩ := hrel
        have hszr2 := hb1.size
        have hne : w1.heap.size ≠ wo.heap.size := by
          have := how0.lt w1.heap.size rfl
          omega
        clear hform how0
        by_cases htj : t < j
        · have hcs : (z t + 1) % 4294967296 = z (t + 1) := by have := hcon t ht1 htj; simpa [cons] using this
          have HC : Hid ((z t + 1) % 4294967296 = z (t + 1)) := hcs
          clear hcs
          have hzt : (z t == z j) = false := by
            have h1 := cons_run z t j (by omega) hz (fun s a b => hcon s (by omega) b)
            have h2 := hz t
            rw [beq_eq_false_iff_ne]
            omega
          go_wp2_with (at_builtin; refine wpList_append_fits _ rfl _ _ 23 rfl w1.heap.size 27 i7 1 Yba.underlying23 hi7 hz71 w1.heap.size t (n + 1) (row z t) rfl (how.alloc _) ⟨wr.heap.size, 0, none⟩ 1 1 [.int .u32 (z t)] rfl rfl (cell_one_new _ _ _) (by simp [Value.oneCell']) (by omega) ?_; intro w2 how2 hgr; have hbx2 := box_kept hgr hbx hbs hne)
          rw [← row_succ] at how2
          have hb2 : Below w1.heap.size w1 w2 := (hb1.alloc hszr2 _).grown hgr (by simp; omega) (fun k e => by simp at e; omega)
          have hs2 := hgr.size
          rw [World.size_alloc] at hs2
          clear hgr how hb1
          go_roundw
          case rel => exact ⟨t + 1, by omega, by omega, by rw [HC.out], rfl, how2, hbx2, by omega, hb2⟩
          case measure => simp [lenOf]; omega
        · obtain rfl : t = j := by omega
          go_wp2_with (at_builtin; refine wpList_append_fits _ rfl _ _ 23 rfl w1.heap.size 27 i7 1 Yba.underlying23 hi7 hz71 w1.heap.size t (n + 1) (row z t) rfl (how.alloc _) ⟨wr.heap.size, 0, none⟩ 1 1 [.int .u32 (z t)] rfl rfl (cell_one_new _ _ _) (by simp [Value.oneCell']) (by omega) ?_; intro w2 how2 hgr; have hbx2 := box_kept hgr hbx hbs hne)
          rw [← row_succ] at how2
          have hb2 : Below w1.heap.size w1 w2 := (hb1.alloc hszr2 _).grown hgr (by simp; omega) (fun k e => by simp at e; omega)
          clear hgr how hb1
          go_roundw
          case rel => exact ⟨s + 1, t + 1, by omega, by go_num, rfl, hrest, how2, hb2⟩
          case measure => simp [intOf]; omega
    · have hs0 : s = l.length := by omega
      rw [hs0, List.drop_length] at hcs
      obtain rfl : t = n := hcs
      go_wp2_with fail
      have hX : At .u32 wr (some ⟨w1.heap.size, 0, none⟩) t z := fun _ => ⟨_, 0, rfl, fun j hj => by rw [Nat.zero_add, how.cellAt j (by omega)]; exact row_get z t j hj⟩
      have hb0 : Below w.heap.size w wr := hbel.trans (hb1.mono hsz)
      have hY : At .u32 wr a t z := fun h => by
        obtain ⟨b, off, rfl, hb, hcell⟩ := hc h
        exact ⟨b, off, rfl, fun j hj => (hb0.cell hb).trans (hcell j hj)⟩
      clear how hc hform mk
      refine (equal_u32 _ _ t _ _ z wr hn hX hY).mono ?_
      rintro e w' ⟨rfl, q, rfl⟩
      go_wp2
      go_ret
      exact ⟨rfl, below_drewN hb0 _⟩

set_option maxRecDepth 100000 in
theorem round_big (k : Int) (a : Option Addr) (n c : Nat) (w : World) (hn : 1024 < n) :
    Calls Yba.prog 6 #[.int .u64 k, .slice a n c] w fun e w' => e = .returned (.bool true) ∧ Below w.heap.size w w' := by
  go_enter Yba.func6, Yba.ntmps6
  go_wp2
  go_ret
  exact ⟨rfl, Below.refl _ _⟩

/-- Out of the shell's word on a slice of numbers. -/
theorem came_of {k : IntKind} {w : World} {a : Option Addr} {n cap : Nat} {zs : List Int}
    (h : (a = none ∧ n = 0 ∧ cap = 0 ∧ zs = []) ∨ ∃ x, a = some x ∧ n ≤ cap ∧ cap ≤ maxLen ∧ zs.length = cap ∧ (∀ i, i < zs.length → w.cell? (x.add i) = some (.int k (zs.getD i 0))) ∧ ∀ n ∈ zs, (Lit.int k n).wf = true) :
    Came w.heap.size k w a n (fun j => zs.getD j 0) := by
  intro hn
  rcases h with ⟨_, h, _⟩ | ⟨x, rfl, hl, _, hz, hc, _⟩
  · omega
  · obtain ⟨b, off, spot⟩ := x
    have hspot : spot = none := by simpa [Addr.add] using World.cell?_spot (hc 0 (by omega))
    subst hspot
    have hc' : ∀ j, j < zs.length → w.cell? ⟨b, off + j, none⟩ = some (.int k (zs.getD j 0)) := fun j hj => by
      have e : (⟨b, off, none⟩ : Addr).add j = ⟨b, off + j, none⟩ := by
        by_cases h0 : j = 0 <;> simp [Addr.add, h0]
      rw [← e]
      exact hc j hj
    refine ⟨b, off, rfl, ?_, fun j hj => hc' j (by omega)⟩
    exact block_lt_of_cell (hc' 0 (by omega))

theorem range_of {w : World} {a : Option Addr} {n cap : Nat} {zs : List Int}
    (h : (a = none ∧ n = 0 ∧ cap = 0 ∧ zs = []) ∨ ∃ x, a = some x ∧ n ≤ cap ∧ cap ≤ maxLen ∧ zs.length = cap ∧ (∀ i, i < zs.length → w.cell? (x.add i) = some (.int .u32 (zs.getD i 0))) ∧ ∀ n ∈ zs, (Lit.int .u32 n).wf = true) :
    ∀ s, 0 ≤ zs.getD s 0 ∧ zs.getD s 0 < 4294967296 := by
  intro s
  have hw : ∀ n ∈ zs, (Lit.int .u32 n).wf = true := by
    rcases h with ⟨_, _, _, rfl⟩ | ⟨x, _, _, _, _, _, hw⟩
    · simp
    · exact hw
  by_cases hs : s < zs.length
  · have := hw _ (List.getElem_mem hs)
    have := bounds_u32 this
    simp [hs]
    omega
  · simp [hs]
end Go.Proofs.Ybulkyyu.BSpans
