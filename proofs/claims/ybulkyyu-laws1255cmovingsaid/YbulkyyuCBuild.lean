/- grid.build: from a grid without a map. -/
import Derived.Test.YbulkyyuCGrid
import Derived.Test.YbulkyyuCPivot
import Derived.Deep.RegionWith
import Derived.Deep.RegionHeld3
import Derived.Deep.AppendLies
namespace Go.Proofs.Ybulkyyu.CMap
open Go.RowKit
open Go.Proofs.Ybulkyyu.CF (fI Idx cellOf_any grown_new_cell grown_draw)

theorem eql_map (w : World) : (binOp .eql 91 (.map none) (.map none)).run Yba.prog w = .ok (.bool true) w := by kernel_rfl

theorem st_float (a : Addr) (x : Nat) (w : World) : (store a (.float .f64 x)).run Yba.prog w = stored Yba.prog w a (.float .f64 x) .plain := run_store Yba.prog w a _ _ rfl
theorem info3 : (Yba.prog.info? 3).map (fun i => (i.zero, i.size, i.bytes)) = some (some (.int .i64 0), 1, 8) := by kernel_rfl
theorem make_map (w : World) : (Instr.makeMap 91 none).run Yba.prog w = .ok (.map (some w.heap.size)) (w.alloc (.map #[] 0)) := rfl
theorem range_map (w : World) (mb : Nat) (es : Array MapEntry) (clock : Nat) (h : w.heap[mb]? = some (.map es clock)) : (Instr.range 91 (.map (some mb))).run Yba.prog w = .ok (.pointer (some ⟨w.heap.size, 0, none⟩)) (w.alloc (.mapIter (some mb) clock #[] clock)) := by
  simp only [Instr.range, Sem.run_bind, run_underlying Yba.underlying91, MapKept.run_getObj_map h, Result.andThen_ok]
  rfl
theorem next_map (w : World) (r mb c l clock : Nat) (t : TypeId) (hr : w.heap[r]? = some (.mapIter (some mb) c #[] l)) (h : w.heap[mb]? = some (.map #[] clock)) : (Instr.next (.pointer (some ⟨r, 0, none⟩)) false t).run Yba.prog w = .ok (.tuple #[.bool false]) w := by
  have hg : (getObj r).run Yba.prog w = .ok (.mapIter (some mb) c #[] l) w := by simp [getObj, Sem.run, hr]
  have e1 : ∀ p : MapEntry → Bool, Array.filter p #[] = #[] := fun p => by simp
  simp only [Instr.next, Sem.run_bind, hg, MapKept.run_getObj_map h, Result.andThen_ok, e1]
  simp [Question.forced]

set_option maxRecDepth 100000 in
set_option maxHeartbeats 4000000 in
theorem build_any (fb pb n c C : Nat) (x y qx qy : Nat → Nat) (cur : Array Value) (w : World) (hn : n ≤ 1024) (hfb : w.heap[fb]? = some (.cells cur 96 (0, 0))) (hcs : cur.size = 12) (h3 : cur[3]? = some (.float .f64 C)) (h4 : cur[4]? = some (.map none))
    (hpf : pb ≠ fb) (hp : ∀ j, j < n → w.cell? ⟨pb, j * 2, none⟩ = some (.float .f64 (fI (x j))) ∧ w.cell? ⟨pb, j * 2 + 1, none⟩ = some (.float .f64 (fI (y j)))) (hI : ∀ j, j < n → Idx C (x j) (qx j) ∧ Idx C (y j) (qy j) ∧ qx j ≤ 1000 ∧ qy j ≤ 1000) :
    Calls Yba.prog 42 #[.pointer (some ⟨fb, 3, none⟩), .slice (some ⟨pb, 0, none⟩) n c] w fun e w' => ∃ N key val, e = .returned (.tuple #[]) ∧ w'.heap[fb]? = some (.cells (cur.setIfInBounds 4 (.map (some w.heap.size))) 96 (0, 0)) ∧ Bk w' w.heap.size (w.heap.size + 1) n (fun j => ((qx j : Int), (qy j : Int))) N key val ∧ w.grownBy w' (some fb) := by
  have c4 : w.cell? ⟨fb, 4, none⟩ = some (.map none) := by rw [cell_of_row w fb 4 _ _ _ hfb]; exact h4
  have f4 : w.frozen? ⟨fb, 4, none⟩ = false := frozen_of_row w fb 4 _ _ hfb
  have q91 := eql_map
  have mk := make_map
  have hfs : fb < w.heap.size := by
    rcases Nat.lt_or_ge fb w.heap.size with hlt | hge
    · exact hlt
    · rw [Array.getElem?_eq_none hge] at hfb; cases hfb
  have hfb1 : (w.alloc (.map #[] 0)).heap[fb]? = some (.cells cur 96 (0, 0)) := by rw [heap_alloc_old w _ hfs]; exact hfb
  have c4' : (w.alloc (.map #[] 0)).cell? ⟨fb, 4, none⟩ = some (.map none) := by rw [cell_of_row _ fb 4 _ _ _ hfb1]; exact h4
  have f4' : (w.alloc (.map #[] 0)).frozen? ⟨fb, 4, none⟩ = false := frozen_of_row _ fb 4 _ _ hfb1
  have s1 : (w.setCell ⟨fb, 4, none⟩ (.map (some w.heap.size))).heap.size = w.heap.size := World.size_setCell ..
  have hob : ((w.setCell ⟨fb, 4, none⟩ (.map (some w.heap.size))).alloc (.map #[] 0)).heap[w.heap.size]? = some (.map #[] 0) := by
    have := heap_alloc_new (w.setCell ⟨fb, 4, none⟩ (.map (some w.heap.size))) (.map #[] 0)
    rwa [s1] at this
  have hrg := range_map _ w.heap.size #[] 0 hob
  rw [World.size_alloc, s1] at hrg
  go_enter Yba.func42, Yba.ntmps42
  go_wp2
  obtain ⟨W, hW⟩ : ∃ W, W = ((w.setCell ⟨fb, 4, none⟩ (.map (some w.heap.size))).alloc (.map #[] 0)).alloc (.mapIter (some w.heap.size) 0 #[] 0) := ⟨_, rfl⟩
  have hW1 : W.heap[w.heap.size]? = some (.map #[] 0) := by
    rw [hW, heap_alloc_old _ _ (by rw [World.size_alloc, s1]; omega)]; exact hob
  have hW2 : W.heap[w.heap.size + 1]? = some (.mapIter (some w.heap.size) 0 #[] 0) := by
    have := heap_alloc_new ((w.setCell ⟨fb, 4, none⟩ (.map (some w.heap.size))).alloc (.map #[] 0)) (.mapIter (some w.heap.size) 0 #[] 0)
    rwa [World.size_alloc, s1, ← hW] at this
  have hW3 : W.heap[fb]? = some (.cells (cur.setIfInBounds 4 (.map (some w.heap.size))) 96 (0, 0)) := by
    rw [hW, heap_alloc_old _ _ (by rw [World.size_alloc, s1]; omega), heap_alloc_old _ _ (by rw [s1]; omega)]
    exact heap_setCell_same w fb 4 cur 96 _ hfb
  have hW4 : w.grownBy W (some fb) := by
    rw [hW]
    refine ⟨rfl, rfl, rfl, by rw [World.size_alloc, World.size_alloc, s1]; omega, fun k hk hne => ?_⟩
    rw [heap_alloc_old _ _ (by rw [World.size_alloc, s1]; omega), heap_alloc_old _ _ (by rw [s1]; omega)]
    exact heap_setCell_other w ⟨fb, 4, none⟩ k _ (fun e => hne (by rw [e]))
  rw [← hW]
  have hnx : ∀ t, (Instr.next (.pointer (some ⟨w.heap.size + 1, 0, none⟩)) false t).run Yba.prog W = .ok (.tuple #[.bool false]) W := fun t => next_map W _ _ _ _ _ t hW2 hW1
  clear hW hrg hob mk q91 c4 f4 c4' f4' s1
  go_loopw [5] (fun _ wr => wr = W) (fun _ _ => 0)
  case atStart => rfl
  case round =>
    obtain rfl := hrel
    go_wp2
    obtain ⟨mb, hmb⟩ : ∃ mb, mb = w.heap.size := ⟨_, rfl⟩
    have hcur3 : (cur.setIfInBounds 4 (.map (some mb)))[3]? = some (.float .f64 C) := by rw [Array.getElem?_setIfInBounds_ne (by omega)]; exact h3
    have hcur4 : (cur.setIfInBounds 4 (.map (some mb)))[4]? = some (.map (some mb)) := Array.getElem?_setIfInBounds_self_of_lt (by omega)
    rw [← hmb] at hW1 hW3 ⊢
    have HMB : Hid (mb = w.heap.size) := hmb
    clear hmb
    obtain ⟨cur', hc'⟩ : ∃ cur', cur' = cur.setIfInBounds 4 (.map (some mb)) := ⟨_, rfl⟩
    rw [← hc'] at hcur3 hcur4 hW3
    have HC : Hid (cur' = cur.setIfInBounds 4 (.map (some mb))) := hc'
    clear hc'
    have hB0 := Bk.start _ mb (mb + 1) (fun j => ((qx j : Int), (qy j : Int))) hW1 (Nat.lt_succ_self _)
    go_loopw [37] (fun s37 wq => ∃ (h N : Nat) (key : Nat → Int × Int) (val : Nat → Value), s37 = .int .i64 h ∧ h ≤ n ∧ wq.heap[fb]? = some (.cells cur' 96 (0, 0)) ∧ Bk wq mb (mb + 1) h (fun j => ((qx j : Int), (qy j : Int))) N key val ∧ w.grownBy wq (some fb)) (fun s37 _ => n - (intOf s37).toNat)
    case atStart => exact ⟨0, _, _, _, rfl, Nat.zero_le _, hW3, hB0, hW4⟩
    case round =>
      obtain ⟨h, N, key, val, rfl, hh, hF, hB, hG⟩ := hrel
      clear hB0 hW1 hW2 hW3 hW4 hnx
      by_cases hlt : h < n
      · obtain ⟨p1, p2⟩ := hp h hlt
        obtain ⟨i1, i2, i3, i4⟩ := hI h hlt
        obtain ⟨X, hX⟩ : ∃ X, X = fI (x h) := ⟨_, rfl⟩
        obtain ⟨Y, hY⟩ : ∃ Y, Y = fI (y h) := ⟨_, rfl⟩
        rw [← hX] at p1
        rw [← hY] at p2
        have d1 := hG.cell p1 (by simpa using hpf)
        have d2 := hG.cell p2 (by simpa using hpf)
        have hc3 : ∀ o, (wr.alloc o).cell? ⟨fb, 3, none⟩ = some (.float .f64 C) := fun o => by
          rw [cell_of_row _ fb 3 _ _ _ ((heap_alloc_old wr o (Nat.lt_of_lt_of_le hfs hG.size)).trans hF)]; exact hcur3
        have hCall : ∀ w : World, w.cell? ⟨fb, 3, none⟩ = some (.float .f64 C) → Calls Yba.prog 56 #[.pointer (some ⟨fb, 3, none⟩), .agg #[.float .f64 X, .float .f64 Y]] w fun e w' => e = .returned (.agg #[.int .i64 (qx h), .int .i64 (qy h)]) ∧ w.grownBy w' none := fun w hw => by
          rw [hX, hY]; exact cellOf_any C (x h) (y h) (qx h) (qy h) ⟨fb, 3, none⟩ w i1 i2 i3 i4 hw
        clear hX hY
        have k1 : (h : Int) < (n : Int) := by omega
        have stf := st_float
        go_wp2_with (go_at_call 56; refine (hCall _ (hc3 _)).mono ?_; rintro e w1 ⟨rfl, hg1⟩)
        obtain ⟨a, ha⟩ : ∃ a : Int, a = (qx h : Int) := ⟨_, rfl⟩
        obtain ⟨b, hb⟩ : ∃ b : Int, b = (qy h : Int) := ⟨_, rfl⟩
        have HA : Hid (a = (qx h : Int)) := ha
        have HBb : Hid (b = (qy h : Int)) := hb
        rw [← ha, ← hb]
        clear ha hb hCall hc3 d1 d2 p1 p2 i1 i2 i3 i4
        obtain ⟨V, hV⟩ : ∃ V, V = w1.alloc (.cells #[.int .i64 a, .int .i64 b] 126 (0, 0)) := ⟨_, rfl⟩
        have hVs : V.heap.size = w1.heap.size + 1 := by rw [hV]; exact World.size_alloc ..
        have hV1 : V.heap[w1.heap.size]? = some (.cells #[.int .i64 a, .int .i64 b] 126 (0, 0)) := by rw [hV]; exact heap_alloc_new w1 _
        have g1 : wr.grownBy w1 none := CSort.grown_trans (CSort.grown_alloc wr _ none) hg1
        have g2 : wr.grownBy V none := by rw [hV]; exact CSort.grown_trans g1 (CSort.grown_alloc w1 _ none)
        have g3 : ∀ o, wr.grownBy (V.alloc o).drew none := fun o => CSort.grown_drewN (CSort.grown_trans g2 (CSort.grown_alloc V _ none)) 1
        rw [← hV]
        have hmw : wr.heap.size ≤ w1.heap.size := g1.size
        have hfm : fb ≠ mb := by have := HMB.out; omega
        have hfm2 : fb < mb := by have := HMB.out; omega
        clear hg1 g1 hV
        have hVF : V.heap[fb]? = some (.cells cur' 96 (0, 0)) := (g2.block fb (Nat.lt_of_lt_of_le hfs hG.size) (by simp)).trans hF
        have v1 : V.cell? ⟨fb, 4, none⟩ = some (.map (some mb)) := by rw [cell_of_row _ fb 4 _ _ _ hVF]; exact hcur4
        have v2 : V.cell? ⟨w1.heap.size, 0, none⟩ = some (.int .i64 a) := by rw [cell_of_row _ _ 0 _ _ _ hV1]; rfl
        have v3 : V.cell? ⟨w1.heap.size, 1, none⟩ = some (.int .i64 b) := by rw [cell_of_row _ _ 1 _ _ _ hV1]; rfl
        have hBU := hB.kept (g3 (.cells #[.int .i64 (h : Int)] 3 (0, 0))) (fun g e => by cases e)
        obtain ⟨t, N1, key1, val1, w3, hME, hg3, hs3, ht, hkt, hB3⟩ := hBU.entry (a, b)
        unfold kv at hME
        obtain ⟨i0, hi0, hz0, hz1, hz2⟩ := info_parts info3
        have hblk : w3.heap[w1.heap.size + 1]? = some (.cells #[.int .i64 (h : Int)] 3 (0, 0)) := by
          have e : (V.alloc (.cells #[.int .i64 (h : Int)] 3 (0, 0))).drew.heap[w1.heap.size + 1]? = some (.cells #[.int .i64 (h : Int)] 3 (0, 0)) := by
            rw [← hVs]; exact heap_alloc_new V _
          have hsz : (V.alloc (.cells #[.int .i64 (h : Int)] 3 (0, 0))).drew.heap.size = w1.heap.size + 1 + 1 := by
            rw [← hVs]; exact World.size_alloc ..
          refine (hg3.block _ (by rw [hsz]; omega) ?_).trans e
          intro e2
          have := hB.size
          have := g2.size
          cases e2
          omega
        obtain ⟨L, hL⟩ : ∃ L, L = mem (fun j => ((qx j : Int), (qy j : Int))) h (a, b) := ⟨_, rfl⟩
        have hlen := mem_len (fun j => ((qx j : Int), (qy j : Int))) h (a, b)
        rw [← hL] at hlen
        have HL : Hid (L = mem (fun j => ((qx j : Int), (qy j : Int))) h (a, b)) := hL
        have HKT : Hid (key1 t = (a, b)) := hkt
        have hrow := hB3.row t ht
        rw [hkt, ← hL] at hrow
        clear hL hkt
        have hbs : mb + 1 ≤ w3.heap.size := hB3.size
        have hsz3 : w3.heap.size = w1.heap.size + 1 + 1 := by
          rw [hs3, ← hVs]; exact World.size_alloc ..
        have hmbV : mb < w1.heap.size := by
          have e1 := hB.size
          have e2 := hmw
          omega
        have hS3 : w3.cell? ⟨fb, 4, none⟩ = some (.map (some mb)) ∧ w3.cell? ⟨w1.heap.size, 0, none⟩ = some (.int .i64 a) ∧ w3.cell? ⟨w1.heap.size, 1, none⟩ = some (.int .i64 b) := by
          have o3 : ∀ {p : Addr} {v : Value}, V.cell? p = some v → p.block ≠ mb → w3.cell? p = some v := fun hp hne => hg3.cell ((CSort.grown_drewN (CSort.grown_alloc V _ none) 1).cell hp (by simp)) (by simpa using hne)
          exact ⟨o3 v1 hfm, o3 v2 (by show w1.heap.size ≠ mb; omega), o3 v3 (by show w1.heap.size ≠ mb; omega)⟩
        have hw3b : w3.heap[w1.heap.size]? = some (.cells #[.int .i64 a, .int .i64 b] 126 (0, 0)) := by
          refine (hg3.block _ (by rw [← hs3, hsz3]; omega) (fun e => by cases e; omega)).trans ?_
          exact (heap_alloc_old V _ (by omega)).trans hV1
        have ne1 : (val1 t).ownBlock ≠ some fb := fun e => by
          have := ((hB3.row t ht).lt fb e).1
          omega
        have ne2 : (val1 t).ownBlock ≠ some w1.heap.size := fun e => by
          rcases (hB3.row t ht).2 with ⟨e2, _⟩ | ⟨g, cap, cur, e2, _, hgg, _⟩
          · rw [e2] at e; cases e
          · rw [e2] at e
            have e3 : g = w1.heap.size := by simpa [Value.ownBlock] using e
            rw [e3, hw3b] at hgg
            cases hgg
        go_region_held3 (fun w' => w'.cell? ⟨fb, 4, none⟩ = some (.map (some mb)) ∧ w'.cell? ⟨w1.heap.size, 0, none⟩ = some (.int .i64 a) ∧ w'.cell? ⟨w1.heap.size, 1, none⟩ = some (.int .i64 b)) (first | go_keep | exact hS3 | exact ⟨hgrow4.cell hS3.1 (Ne.symm ne1), hgrow4.cell hS3.2.1 (Ne.symm ne2), hgrow4.cell hS3.2.2 (Ne.symm ne2)⟩ | exact ⟨(putB_grown _ _ _).cell (hgrow4.cell hS3.1 (Ne.symm ne1)) (by simpa using hfm), (putB_grown _ _ _).cell (hgrow4.cell hS3.2.1 (Ne.symm ne2)) (by simp; omega), (putB_grown _ _ _).cell (hgrow4.cell hS3.2.2 (Ne.symm ne2)) (by simp; omega)⟩) ((refine step_append_lies _ (by rfl) _ _ _ (by rfl) (mb + 1) 3 i0 _ 1 8 Yba.underlying74 hi0 hz0 hz1 hz2 rfl (by omega) (val1 t) L.length (irow L) (by rfl) hrow ⟨w1.heap.size + 1, 0, none⟩ 1 1 [.int .i64 (h : Int)] (by rfl) (by rfl) (World.news_of_block (cs := #[.int .i64 (h : Int)]) (t := 3) (fr := (0, 0)) hblk) (by simp [Value.oneCell']) (by omega) (by unfold maxLen; omega) (by omega) hbs w3.heap.size rfl ?_; intro gg cap w4 hown4 hgrow4 hat4 hlt4; have hES := (hB3.store t ht (HKT.out.trans (by rw [HA.out, HBb.out])) _ (by rw [HKT.out, ← HL.out]; exact hown4) hgrow4 (by rcases hat4 with h1 | h1; exact .inl h1.symm; exact .inr (by rw [h1]; rfl))).1; unfold goInt at hES))
        have hBk := (hB3.store t ht (HKT.out.trans (by rw [HA.out, HBb.out])) (.slice (some ⟨gg, 0, none⟩) (L.length + 1) cap) (by rw [HKT.out, ← HL.out]; exact hown4) hgrow4 (by rcases hat4 with h1 | h1; exact .inl h1.symm; exact .inr (by rw [h1]; rfl))).2
        have hkeep : ∀ k, k < mb → (putB w4 mb (Obj.map (ents N1 key1 (upd val1 t (Value.slice (some { block := gg, off := 0 }) (L.length + 1) cap))) N1)).heap[k]? = wr.heap[k]? := fun k hk => by
          have hkw : k < wr.heap.size := by have := hB.size; omega
          have hks : k < (V.alloc (.cells #[.int .i64 (h : Int)] 3 (0, 0))).drew.heap.size := Nat.lt_of_lt_of_le hkw (g3 _).size
          rw [putB_ne _ _ _ _ (by omega), hgrow4.block k (by rw [hs3]; exact hks) (fun e => by have := (hrow.lt k e.symm).1; omega), hg3.block k hks (fun e => by cases e; omega)]
          exact (g3 _).block k hkw (by simp)
        have hGk : w.grownBy (putB w4 mb (Obj.map (ents N1 key1 (upd val1 t (Value.slice (some { block := gg, off := 0 }) (L.length + 1) cap))) N1)) (some fb) := by
          have q := g3 (.cells #[.int .i64 (h : Int)] 3 (0, 0))
          have hm := HMB.out
          refine ⟨(hgrow4.os.trans hg3.os).trans (q.os.trans hG.os), (hgrow4.tape.trans hg3.tape).trans (q.tape.trans hG.tape), (hgrow4.output.trans hg3.output).trans (q.output.trans hG.output), ?_, fun k hk hne => (hkeep k (by omega)).trans (hG.block k hk hne)⟩
          rw [putB_size]
          exact Nat.le_trans (Nat.le_trans hG.size q.size) (Nat.le_trans hg3.size hgrow4.size)
        go_wp2
        go_roundw
        case rel => exact ⟨h + 1, N1, key1, _, by go_num, by omega, (hkeep fb hfm2).trans hF, hBk, hGk⟩
        case measure => simp [intOf]; omega
      · go_wp2
        go_end0
        obtain rfl : h = n := by omega
        have e1 := HMB.out
        have e2 := HC.out
        rw [e2] at hF
        rw [e1] at hF hB
        exact ⟨N, key, val, rfl, hF, hB, hG⟩
end Go.Proofs.Ybulkyyu.CMap
