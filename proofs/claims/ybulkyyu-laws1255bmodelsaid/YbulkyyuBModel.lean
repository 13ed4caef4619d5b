/- slices.Clone at spans; the law's own model; for LawS1255BModel. -/
import Derived.Test.YbulkyyuBRound
import Derived.Laws.StructEq
import Derived.Lib.SliceRun
namespace Go.Proofs.Ybulkyyu.BSpans
open Go.RowKit

/-- The cells of m spans that came in: p i is the number in cell i. -/
def pre (p : Nat → Int) (m : Nat) : List Value := (List.range (m * 4)).map fun i => .int .u32 (p i)
theorem pre_len (p : Nat → Int) (m : Nat) : (pre p m).length = m * 4 := by simp [pre]
theorem pre_get (p : Nat → Int) (m j : Nat) (u : Value) (h : (pre p m)[j]? = some u) : j < m * 4 ∧ u = .int .u32 (p j) := by
  have hj : j < m * 4 := by have := (List.getElem?_eq_some_iff.1 h).1; simpa [pre] using this
  simp [pre, hj] at h
  exact ⟨hj, h.symm⟩
theorem pre_one (p : Nat → Int) (m : Nat) : ∀ u ∈ pre p m, u.oneCell' = true := by
  intro u hu
  obtain ⟨i, _, rfl⟩ := List.mem_map.1 hu
  rfl

/-- A slice of m spans that came in. -/
def Pre (w : World) (a : Option Addr) (m c : Nat) (p : Nat → Int) : Prop := (a = none ∧ m = 0 ∧ c = 0) ∨ ∃ x : Addr, a = some x ∧ ∀ i, i < m * 4 → w.cell? (x.add i) = some (.int .u32 (p i))

set_option maxRecDepth 100000 in
set_option maxHeartbeats 400000 in
theorem clone_any (a : Option Addr) (m c : Nat) (p : Nat → Int) (w : World) (hm : m ≤ 1024) (hp : Pre w a m c p) :
    Calls Yba.prog 14 #[.slice a m c] w fun e w' => ∃ v', e = .returned v' ∧ w'.ownsRow w.heap.size 47 4 v' m (pre p m) ∧ Below w.heap.size w w' := by
  have q42 : ∀ (w : World) (a : Option Addr) (n c n' c' : Nat), (binOp .eql 42 (.slice a n c) (.slice none n' c')).run Yba.prog w = .ok (.bool a.isNone) w := fun w a n c n' c' => Lib.run_eql_slice_nil w _ _ a n c n' c' Yba.underlying42
  obtain ⟨i0, hi, hz0, hz1, hz2⟩ := info_parts Yba.info47
  rcases hp with ⟨rfl, rfl, rfl⟩ | ⟨x, rfl, hx⟩
  · go_enter Yba.func14, Yba.ntmps14
    go_wp2
    go_ret
    exact ⟨_, rfl, by simpa [pre] using World.ownsRow_nil w w.heap.size 47 4, Below.refl _ _⟩
  · go_enter Yba.func14, Yba.ntmps14
    have hx1 : ∀ i, i < m * 4 → (w.alloc (.cells #[] 47)).cell? (x.add i) = some (.int .u32 (p i)) := fun i hi => by
      rw [World.cell?_of_block (Below.heap_alloc w _ _ (block_lt_of_cell (hx i hi)))]
      exact hx i hi
    go_wp2_with (at_builtin; refine wpList_append_own _ rfl _ _ 42 rfl w.heap.size 47 i0 _ 4 16 Yba.underlying42 hi hz0 hz1 hz2 rfl (by decide) _ 0 [] rfl (World.ownsRow_made w #[] 0 (Nat.le_refl _) (by decide) rfl) x m c (pre p m) rfl (pre_len p m) (fun j u hu => by rw [(pre_get p m j u hu).2]; exact hx1 j (pre_get p m j u hu).1) (pre_one p m) (by unfold maxLen; omega) (by omega) (by simp) ?_; intro v' w1 hown hgrow _)
    rw [Nat.zero_add, List.nil_append] at hown
    have hb : Below w.heap.size w w1 := ((Below.refl _ _).alloc (Nat.le_refl _) _).grown hgrow (by simp) (fun k e => by cases e; exact Nat.le_refl _)
    clear hgrow hx hx1
    go_wp2
    go_ret
    exact ⟨_, rfl, hown, hb⟩

theorem make42 (n : Nat) (hn : n ≤ 4096) (C : Int) (hC : C = (n : Int)) (W : World) :
    (Instr.makeSlice 42 (.int .i64 0) (.int .i64 C)).run Yba.prog W = .ok (.slice (some ⟨W.heap.size, 0, none⟩) 0 n) (W.alloc (.cells (zer (.agg #[.int .u32 0, .int .u32 0, .int .u32 0, .int .u32 0]) 4 n) 47)) := by
  subst hC
  obtain ⟨i, hi, hz0, hz1, hz2⟩ := info_parts Yba.info47
  have h := run_make (P := Yba.prog) W 42 47 i _ Yba.underlying42 hi hz0 .i64 .i64 0 (n : Int) (by omega) (by omega) (by rw [hz2]; omega) (by omega)
  rw [hz1, Int.toNat_natCast] at h
  exact h
theorem owns47 (W : World) (n : Nat) (hn : n ≤ 4096) : (W.alloc (.cells (zer (.agg #[.int .u32 0, .int .u32 0, .int .u32 0, .int .u32 0]) 4 n) 47)).ownsRow W.heap.size 47 4 (.slice (some ⟨W.heap.size, 0, none⟩) 0 n) 0 [] :=
  World.ownsRow_made W _ n (Nat.le_refl _) (by unfold maxLen; omega) (by simp [zer, size_madeCells])

/-- The last span's last cell turned. -/
theorem set_last (xs : List Value) (o r : Int) (z : Nat → Int) (m i j k : Nat) (t : List (Nat × Nat)) (hx : xs.length = m * 4) :
    (xs ++ cellsOf o r z (t ++ [(i, j)])).set ((m + t.length) * 4 + 3) (.int .u32 (z k)) = xs ++ cellsOf o r z (t ++ [(i, k)]) := by
  have e : ∀ q, cellsOf o r z (t ++ [(i, q)]) = cellsOf o r z t ++ [.int .u32 o, .int .u32 r, .int .u32 (z i), .int .u32 (z q)] := fun q => by simp [cellsOf, spanCells]
  rw [e, e, ← List.append_assoc, ← List.append_assoc, List.set_append_right _ _ (by rw [List.length_append, hx, cells_len]; omega)]
  congr 1
  rw [List.length_append, hx, cells_len, show (m + t.length) * 4 + 3 - (m * 4 + t.length * 4) = 3 by omega]
  rfl

set_option maxRecDepth 100000 in
set_option maxHeartbeats 1000000 in
theorem model_any (a : Option Addr) (m c : Nat) (p : Nat → Int) (k : Int) (a2 : Option Addr) (n c2 : Nat) (z : Nat → Int) (w : World) (hm : m ≤ 1024) (hn : n ≤ 1024) (hp : Pre w a m c p) (hc : Came w.heap.size .u32 w a2 n z) :
    Calls Yba.prog 16 #[.slice a m c, .int .u64 k, .slice a2 n c2] w fun e w' => ∃ v', e = .returned v' ∧ w'.ownsRow w.heap.size 47 4 v' (m + (ix z n).length) (pre p m ++ cellsOf (k / 4294967296 % 4294967296) (k % 4294967296) z (ix z n)) ∧ Below w.heap.size w w' := by
  obtain ⟨i0, hi, hz0, hz1, hz2⟩ := info_parts Yba.info47
  have mk := make42 (m + n) (by omega) ((m : Int) + (n : Int)) (by omega)
  have hno : a = none → m = 0 ∧ c = 0 := fun e => by
    rcases hp with ⟨_, h⟩ | ⟨x, h, _⟩
    · exact h
    · rw [e] at h; cases h
  have hce : ∀ ad, a = some ad → ∀ j u, (pre p m)[j]? = some u → (w.alloc (.cells (zer (.agg #[.int .u32 0, .int .u32 0, .int .u32 0, .int .u32 0]) 4 (m + n)) 47)).cell? (ad.add j) = some u := fun ad e j u hu => by
    rcases hp with ⟨h, _⟩ | ⟨x, h, hx⟩
    · rw [e] at h; cases h
    · rw [e] at h
      cases h
      obtain ⟨hj, rfl⟩ := pre_get p m j u hu
      rw [World.cell?_of_block (Below.heap_alloc w _ _ (block_lt_of_cell (hx j hj)))]
      exact hx j hj
  go_enter Yba.func16, Yba.ntmps16
  go_wp2_with (at_builtin; refine wpList_append_fits_any _ rfl _ _ 42 rfl w.heap.size 47 i0 4 Yba.underlying42 hi hz1 w.heap.size 0 (m + n) [] rfl (owns47 w (m + n) (by omega)) a m c (pre p m) rfl (pre_len p m) hno hce (pre_one p m) (by omega) ?_; intro w1 hown hgrow)
  rw [Nat.zero_add, List.nil_append] at hown
  have hb1 : Below w.heap.size w w1 := ((Below.refl _ _).alloc (Nat.le_refl _) _).grown hgrow (by simp) (fun k e => by cases e; exact Nat.le_refl _)
  clear hgrow hno hce mk
  go_loopw [7, 21] (fun v i wr => ∃ h : Nat, h ≤ n ∧ i = .int .i64 h ∧ v = .slice (some ⟨w.heap.size, 0, none⟩) (m + (ix z h).length) (m + n) ∧ wr.ownsRow w.heap.size 47 4 (.slice (some ⟨w.heap.size, 0, none⟩) (m + (ix z h).length) (m + n)) (m + (ix z h).length) (pre p m ++ cellsOf (k / 4294967296 % 4294967296) (k % 4294967296) z (ix z h)) ∧ Below w.heap.size w wr) (fun _ i _ => n - (intOf i).toNat)
  case atStart => exact ⟨0, Nat.zero_le _, rfl, rfl, by simpa [ix, cellsOf] using hown, hb1⟩
  case round =>
    obtain ⟨h, hh, rfl, rfl, how, hbel⟩ := hrel
    clear hown hb1
    by_cases hlt : h < n
    · obtain ⟨b, off, rfl, hb, hcell⟩ := hc (by omega)
      have hck : wr.cell? ⟨b, off + h, none⟩ = some (.int .u32 (z h)) := (hbel.cell hb).trans (hcell h hlt)
      have hlen := (ix_len z h).1
      have hsz := hbel.size
      by_cases hcc : 0 < h ∧ cons z (h - 1) = true
      · obtain ⟨h0, hcc⟩ := hcc
        obtain ⟨g, rfl⟩ : ∃ g, h = g + 1 := ⟨h - 1, by omega⟩
        rw [Nat.add_sub_cancel] at hcc
        have hcc' : ((z g + 1) % 4294967296 == z (g + 1)) = true := hcc
        have hcp : wr.cell? ⟨b, off + g, none⟩ = some (.int .u32 (z g)) := (hbel.cell hb).trans (hcell g (by omega))
        obtain ⟨t, i, j, e⟩ := snoc_of_pos _ ((ix_len z (g + 1)).2 h0)
        have e2 : ix z (g + 1 + 1) = t ++ [(i, g + 1)] := by rw [ix, if_pos (by simp [hcc]), e, setLast_snoc]
        rw [e, List.length_append] at how
        rw [e, List.length_append] at hlen
        simp only [List.length_cons, List.length_nil, Nat.zero_add] at how hlen
        have hLn : (ix z (g + 1)).length = t.length + 1 := by rw [e]; simp
        rw [hLn]
        clear hLn
        have hst := how.stored ((m + t.length) * 4 + 3) (.int .u32 (z (g + 1)))
        rw [set_last _ _ _ _ m i j (g + 1) t (pre_len p m)] at hst
        have hold := how.cellAt ((m + t.length) * 4 + 3) (by omega)
        have hfz := how.frozenAt ((m + t.length) * 4 + 3)
        obtain ⟨old, hold'⟩ : ∃ u, (pre p m ++ cellsOf (k / 4294967296 % 4294967296) (k % 4294967296) z (t ++ [(i, j)]))[(m + t.length) * 4 + 3]? = some u := ⟨_, List.getElem?_eq_getElem (by rw [List.length_append, pre_len, cells_len, List.length_append]; simp; omega)⟩
        rw [hold'] at hold
        have HE : Hid (ix z (g + 1 + 1) = t ++ [(i, g + 1)]) := e2
        clear e2 e hold' how hcell hc
        go_wp2
        go_roundw
        case rel =>
          refine ⟨g + 1 + 1, by omega, by go_num, ?_, ?_, ?_⟩
          · rw [HE.out]; simp
          · rw [HE.out]
            simpa using hst.1
          · exact hbel.setCell (p := ⟨w.heap.size, _, none⟩) (Nat.le_refl _) _
        case measure => simp [intOf]; omega
      · have e2 : ix z (h + 1) = ix z h ++ [(h, h)] := by rw [ix, if_neg (by simpa using hcc)]
        have HE : Hid (ix z (h + 1) = ix z h ++ [(h, h)]) := e2
        clear e2
        by_cases h0 : h = 0
        · have hd : (h : Int) < 1 := by omega
          clear hcc h0
          go_wp2_with (at_builtin; refine wpList_append_fits _ rfl _ _ 42 rfl w.heap.size 47 i0 4 Yba.underlying42 hi hz1 w.heap.size (m + (ix z (h)).length) (m + n) (pre p m ++ cellsOf (k / 4294967296 % 4294967296) (k % 4294967296) z (ix z (h))) rfl (how.alloc _) ⟨wr.heap.size, 0, none⟩ 1 1 [.int .u32 (k / 4294967296 % 4294967296), .int .u32 (k % 4294967296), .int .u32 (z (h)), .int .u32 (z (h))] rfl rfl (World.news_of_block (cs := #[.int .u32 (k / 4294967296 % 4294967296), .int .u32 (k % 4294967296), .int .u32 (z (h)), .int .u32 (z (h))]) (t := 47) (fr := (0, 0)) (heap_alloc_new wr _)) (by simp [Value.oneCell']) (by omega) ?_; intro w2 how2 hgr)
          have R := own_step (n0 := m) HE.out how2
          have hb2 : Below w.heap.size w w2 := (hbel.alloc hsz _).grown hgr (by simp; omega) (fun k e => by cases e; exact Nat.le_refl _)
          have hLe : m + (ix z (h)).length + 1 = m + (ix z (h + 1)).length := by rw [HE.out]; simp; omega
          rw [← hLe] at R
          clear how2 hgr how
          go_roundw
          case rel => exact ⟨h + 1, by omega, by go_num, by rw [← hLe], by rw [← hLe]; exact R, hb2⟩
          case measure => simp [intOf]; omega
        · obtain ⟨g, rfl⟩ : ∃ g, h = g + 1 := ⟨h - 1, by omega⟩
          have hcc' : ((z g + 1) % 4294967296 == z (g + 1)) = false := by simpa [cons] using hcc
          have hcp : wr.cell? ⟨b, off + g, none⟩ = some (.int .u32 (z g)) := (hbel.cell hb).trans (hcell g (by omega))
          clear hcc
          go_wp2_with (at_builtin; refine wpList_append_fits _ rfl _ _ 42 rfl w.heap.size 47 i0 4 Yba.underlying42 hi hz1 w.heap.size (m + (ix z (g + 1)).length) (m + n) (pre p m ++ cellsOf (k / 4294967296 % 4294967296) (k % 4294967296) z (ix z (g + 1))) rfl (how.alloc _) ⟨wr.heap.size, 0, none⟩ 1 1 [.int .u32 (k / 4294967296 % 4294967296), .int .u32 (k % 4294967296), .int .u32 (z (g + 1)), .int .u32 (z (g + 1))] rfl rfl (World.news_of_block (cs := #[.int .u32 (k / 4294967296 % 4294967296), .int .u32 (k % 4294967296), .int .u32 (z (g + 1)), .int .u32 (z (g + 1))]) (t := 47) (fr := (0, 0)) (heap_alloc_new wr _)) (by simp [Value.oneCell']) (by omega) ?_; intro w2 how2 hgr)
          have R := own_step (n0 := m) HE.out how2
          have hb2 : Below w.heap.size w w2 := (hbel.alloc hsz _).grown hgr (by simp; omega) (fun k e => by cases e; exact Nat.le_refl _)
          have hLe : m + (ix z (g + 1)).length + 1 = m + (ix z (g + 1 + 1)).length := by rw [HE.out]; simp; omega
          rw [← hLe] at R
          clear how2 hgr how
          go_roundw
          case rel => exact ⟨g + 1 + 1, by omega, by go_num, by rw [← hLe], by rw [← hLe]; exact R, hb2⟩
          case measure => simp [intOf]; omega
    · obtain rfl : h = n := by omega
      go_wp2
      go_ret
      exact ⟨_, rfl, how, hbel⟩
end Go.Proofs.Ybulkyyu.BSpans
