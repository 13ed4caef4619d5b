/- slices.Equal at spans, and the walk of LawS1255BModel. -/
import Derived.Test.YbulkyyuBModel
namespace Go.Proofs.Ybulkyyu.BSpans
open Go.RowKit

theorem pre_of (L : List Value) (N : Nat) (h : ∀ u ∈ L, ∃ i, u = .int .u32 i) (hl : L.length = N * 4) : ∃ q, L = pre q N := by
  have : ∀ i, ∃ x : Int, ∀ h : i < L.length, L[i] = .int .u32 x := fun i => by
    by_cases hi : i < L.length
    · obtain ⟨x, hx⟩ := h L[i] (List.getElem_mem hi)
      exact ⟨x, fun _ => hx⟩
    · exact ⟨0, fun h => absurd h hi⟩
  refine ⟨fun i => Classical.choose (this i), List.ext_getElem (by rw [pre_len, hl]) fun i h1 h2 => ?_⟩
  rw [Classical.choose_spec (this i) h1]
  simp [pre]

theorem ints_of (p : Nat → Int) (m : Nat) (o r : Int) (z : Nat → Int) (l : List (Nat × Nat)) : ∀ u ∈ pre p m ++ cellsOf o r z l, ∃ i, u = .int .u32 i := by
  intro u hu
  rcases List.mem_append.1 hu with hu | hu
  · obtain ⟨i, _, rfl⟩ := List.mem_map.1 hu
    exact ⟨_, rfl⟩
  · obtain ⟨x, _, hx⟩ := List.mem_flatMap.1 hu
    simp [spanCells] at hx
    rcases hx with rfl | rfl | rfl | rfl <;> exact ⟨_, rfl⟩

theorem own_form {w : World} {base N : Nat} {v : Value} {q : Nat → Int} (h : w.ownsRow base 47 4 v N (pre q N)) :
    ∃ a c, v = .slice a N c ∧ (0 < N → ∃ g, a = some ⟨g, 0, none⟩ ∧ ∀ i, i < N * 4 → w.cell? ⟨g, i, none⟩ = some (.int .u32 (q i))) := by
  by_cases hl : 0 < N
  · obtain ⟨g, cap, rfl, hb, hlt⟩ := h.form hl
    refine ⟨_, cap, rfl, fun _ => ⟨g, rfl, fun i hi => ?_⟩⟩
    rw [h.cellAt i hi]
    simp [pre, hi]
  · rcases h.2 with ⟨rfl, h0⟩ | ⟨g, cap, cur, rfl, _⟩
    · exact ⟨none, 0, by rw [h0], fun h => absurd h hl⟩
    · exact ⟨_, cap, rfl, fun h => absurd h hl⟩

theorem neq47 (a b c d : Int) (w : World) : (binOp .neq 47 (.agg #[.int .u32 a, .int .u32 b, .int .u32 c, .int .u32 d]) (.agg #[.int .u32 a, .int .u32 b, .int .u32 c, .int .u32 d])).run Yba.prog w = .ok (.bool false) w := by
  have hS : Yba.prog.underlying 47 = some (.struct (Yba.prog.fieldsOf 47)) := by kernel_rfl
  have hp : Yba.prog.stoodInHeld 47 = false := by kernel_rfl
  have u28 := Yba.underlying28
  have u45 := Yba.underlying45
  have u27 := Yba.underlying27
  rw [run_neq_struct, show (10000 : Nat) = 9999 + 1 from rfl, run_equalIn_agg w 9999 47 _ _ hS hp]
  simp only [Program.fieldsOf, Yba.underlying47]
  go_simp

set_option maxHeartbeats 400000 in
theorem equal47 (x y : Option Addr) (n c1 c2 : Nat) (q : Nat → Int) (w : World) (hn : n ≤ 4096)
    (hx : 0 < n → ∃ g, x = some ⟨g, 0, none⟩ ∧ ∀ i, i < n * 4 → w.cell? ⟨g, i, none⟩ = some (.int .u32 (q i)))
    (hy : 0 < n → ∃ g, y = some ⟨g, 0, none⟩ ∧ ∀ i, i < n * 4 → w.cell? ⟨g, i, none⟩ = some (.int .u32 (q i))) :
    Calls Yba.prog 17 #[.slice x n c1, .slice y n c2] w fun e w' => e = .returned (.bool true) ∧ ∃ t, w' = w.drewN t := by
  have hne := neq47
  go_enter Yba.func17, Yba.ntmps17
  go_wp2
  go_loopw [5, 13] (fun _ i wr => ∃ k : Nat, k ≤ n ∧ i = .int .i64 k ∧ ∃ t, wr = w.drewN t) (fun _ i _ => n - (intOf i).toNat)
  case atStart => exact ⟨0, Nat.zero_le _, rfl, 0, rfl⟩
  case round =>
    obtain ⟨k, hk, rfl, t, rfl⟩ := hrel
    by_cases hlt : k < n
    · obtain ⟨b1, rfl, hc1⟩ := hx (by omega)
      obtain ⟨b2, rfl, hc2⟩ := hy (by omega)
      have h10 := hc1 (k * 4) (by omega)
      have h11 := hc1 (k * 4 + 1) (by omega)
      have h12 := hc1 (k * 4 + 2) (by omega)
      have h13 := hc1 (k * 4 + 3) (by omega)
      have h20 := hc2 (k * 4) (by omega)
      have h21 := hc2 (k * 4 + 1) (by omega)
      have h22 := hc2 (k * 4 + 2) (by omega)
      have h23 := hc2 (k * 4 + 3) (by omega)
      have e1 : (0 : Int) ≤ (k : Int) := by omega
      have e2 : (k : Int) < (n : Int) := by omega
      clear hc1 hc2
      go_wp2
      go_quiet (fail)
      go_wp2
      go_roundw
      case rel => exact ⟨k + 1, by omega, by go_num, _, rfl⟩
      case measure => simp [intOf]; omega
    · go_wp2
      go_ret
      exact ⟨rfl, _, rfl⟩

/-- What is owned stays owned where nothing old turns. -/
theorem own_below {w w' : World} {base : Nat} {e : TypeId} {size : Nat} {v : Value} {n : Nat} {xs : List Value} (h : w.ownsRow base e size v n xs) (hb : Below w.heap.size w w') : w'.ownsRow base e size v n xs := by
  obtain ⟨h1, h2⟩ := h
  refine ⟨h1, ?_⟩
  rcases h2 with h2 | ⟨g, cap, cur, hv, hg, hh, r⟩
  · exact Or.inl h2
  · have hlt : g < w.heap.size := by
      rcases Nat.lt_or_ge g w.heap.size with hlt | hge
      · exact hlt
      · rw [Array.getElem?_eq_none hge] at hh; cases hh
    exact Or.inr ⟨g, cap, cur, hv, hg, by rw [hb.block g hlt]; exact hh, r⟩

theorem pre_below {w w' : World} {a : Option Addr} {m c : Nat} {p : Nat → Int} (h : Pre w a m c p) (hb : Below w.heap.size w w') : Pre w' a m c p := by
  rcases h with h | ⟨x, hx, hc⟩
  · exact .inl h
  · exact .inr ⟨x, hx, fun i hi => (hb.cell (block_lt_of_cell (hc i hi))).trans (hc i hi)⟩

set_option maxHeartbeats 400000 in
theorem model_small (a : Option Addr) (m c : Nat) (p : Nat → Int) (k : Int) (a2 : Option Addr) (n c2 : Nat) (z : Nat → Int) (w : World) (hm : m ≤ 1024) (hn : n ≤ 1024) (hp : Pre w a m c p) (hc : Came w.heap.size .u32 w a2 n z) :
    Calls Yba.prog 5 #[.slice a m c, .int .u64 k, .slice a2 n c2] w fun e w' => e = .returned (.bool true) ∧ Below w.heap.size w w' := by
  have hlen := (ix_len z n).1
  obtain ⟨q, hq⟩ := pre_of (pre p m ++ cellsOf (k / 4294967296 % 4294967296) (k % 4294967296) z (ix z n)) (m + (ix z n).length) (ints_of _ _ _ _ _ _) (by rw [List.length_append, pre_len, cells_len]; omega)
  have HQ : Hid (pre p m ++ cellsOf (k / 4294967296 % 4294967296) (k % 4294967296) z (ix z n) = pre q (m + (ix z n).length)) := hq
  clear hq
  go_enter Yba.func5, Yba.ntmps5
  go_wp2_with fail
  refine (clone_any a m c p w hm hp).mono ?_
  rintro e w1 ⟨v1, rfl, how1, hb1⟩
  go_wp2_with fail
  have hs1 := hb1.size
  refine (spans_any w.heap.size v1 m (pre p m) k a2 n c2 z w1 hn hm how1 hs1 (fun h => by obtain ⟨b, off, rfl, hb, hcell⟩ := hc h; exact ⟨b, off, rfl, hb, fun j hj => (hb1.cell hb).trans (hcell j hj)⟩)).mono ?_
  rintro e w2 ⟨v2, rfl, how2, hb2⟩
  clear how1
  rw [HQ.out] at how2
  have hbb := hb1.trans hb2
  have hs2 := hb2.size
  go_wp2_with fail
  refine (model_any a m c p k a2 n c2 z w2 hm hn (pre_below hp hbb) (fun h => by obtain ⟨b, off, rfl, hb, hcell⟩ := hc h; exact ⟨b, off, rfl, by omega, fun j hj => (hbb.cell hb).trans (hcell j hj)⟩)).mono ?_
  rintro e w3 ⟨v3, rfl, how3, hb3⟩
  rw [HQ.out] at how3
  have how4 := own_below how2 hb3
  have hbc : Below w.heap.size w w3 := hbb.trans (hb3.mono (by omega))
  obtain ⟨x, c3, rfl, hx⟩ := own_form how4
  obtain ⟨y, c4, rfl, hy⟩ := own_form how3
  clear how2 how3 how4 hb1 hb2 hb3 hbb
  go_wp2_with fail
  refine (equal47 x y (m + (ix z n).length) c3 c4 q w3 (by omega) hx hy).mono ?_
  rintro e w4 ⟨rfl, t, rfl⟩
  go_wp2
  go_ret
  exact ⟨rfl, below_drewN hbc _⟩

set_option maxRecDepth 100000 in
theorem model_big (a : Option Addr) (m c : Nat) (k : Int) (a2 : Option Addr) (n c2 : Nat) (w : World) (h : 1024 < m ∨ 1024 < n) :
    Calls Yba.prog 5 #[.slice a m c, .int .u64 k, .slice a2 n c2] w fun e w' => e = .returned (.bool true) ∧ Below w.heap.size w w' := by
  by_cases h1 : 1024 < m
  · go_enter Yba.func5, Yba.ntmps5
    go_wp2
    go_ret
    exact ⟨rfl, Below.refl _ _⟩
  · have h2 : 1024 < n := by omega
    go_enter Yba.func5, Yba.ntmps5
    go_wp2
    go_ret
    exact ⟨rfl, Below.refl _ _⟩
end Go.Proofs.Ybulkyyu.BSpans
