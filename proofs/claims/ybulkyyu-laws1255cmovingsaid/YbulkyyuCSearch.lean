/- grid.search, from no slice: the model's list. -/
import Derived.Test.YbulkyyuCRows
import Derived.Test.YbulkyyuCEqual
namespace Go.Proofs.Ybulkyyu.CMap
open Go.RowKit Go.Sort
open Go.Proofs.Ybulkyyu.CLaw (sel ms row info21)
open Go.Proofs.Ybulkyyu.CSort (Row)
open Go.Proofs.Ybulkyyu.CF (fI Idx cellOf_any within_any near)

set_option maxRecDepth 100000 in
set_option maxHeartbeats 8000000 in
theorem search_any (fb pb n c C mb base N : Nat) (x y qx qy : Nat → Nat) (key : Nat → Int × Int) (val : Nat → Value) (cur : Array Value) (i r : Nat) (w : World) (hn : n ≤ 1024) (hi : i < n) (hr : r ≤ 500)
    (hfb : w.heap[fb]? = some (.cells cur 96 (0, 0))) (h3 : cur[3]? = some (.float .f64 C)) (h4 : cur[4]? = some (.map (some mb)))
    (hp : ∀ j, j < n → (w.cell? ⟨pb, j * 2, none⟩ = some (.float .f64 (fI (x j))) ∧ w.cell? ⟨pb, j * 2 + 1, none⟩ = some (.float .f64 (fI (y j)))) ∧ x j ≤ 500 ∧ y j ≤ 500) (hI : ∀ j, j < n → Idx C (x j) (qx j) ∧ Idx C (y j) (qy j) ∧ qx j ≤ 1000 ∧ qy j ≤ 1000)
    (hB : Bk w mb base n (fun j => ((qx j : Int), (qy j : Int))) N key val)
    (hcl : ∀ j, j < n → sel (fun j => (x j : Int)) (fun j => (y j : Int)) r i j = true → ((qx i : Int) - 1 ≤ qx j ∧ (qx j : Int) ≤ qx i + 1) ∧ (qy i : Int) - 1 ≤ qy j ∧ (qy j : Int) ≤ qy i + 1) :
    Calls Yba.prog 43 #[.pointer (some ⟨fb, 3, none⟩), .slice (some ⟨pb, 0, none⟩) n c, .int .i64 i, .float .f64 (fI r), .slice none 0 0] w fun e w' => ∃ v, e = .returned v ∧ w'.ownsRow w.heap.size 21 1 v (ms (fun j => (x j : Int)) (fun j => (y j : Int)) r i n).length (row (ms (fun j => (x j : Int)) (fun j => (y j : Int)) r i n)) ∧ w.grownBy w' none := by
  obtain ⟨p, hpd⟩ : ∃ p, p = sel (fun j => (x j : Int)) (fun j => (y j : Int)) (r : Int) i := ⟨_, rfl⟩
  obtain ⟨K, hK⟩ : ∃ K : Nat → Int × Int, K = fun j => ((qx j : Int), (qy j : Int)) := ⟨_, rfl⟩
  have hperm := col_perm K n p (K i) (fun j hj hs => by rw [hK]; rw [hpd] at hs; exact hcl j hj hs)
  have hms : ms (fun j => (x j : Int)) (fun j => (y j : Int)) (r : Int) i n = (List.range n).filter p := by rw [hpd]; rfl
  rw [hms]
  clear hms
  rw [← hK] at hB
  have hsel : ∀ j, p j = (decide (j ≠ i) && near (x i) (y i) (x j) (y j) r) := fun j => by rw [hpd]; rfl
  obtain ⟨⟨pi1, pi2⟩, xi5, yi5⟩ := hp i hi
  obtain ⟨i1, i2, i3, i4⟩ := hI i hi
  obtain ⟨X, hX⟩ : ∃ X, X = fI (x i) := ⟨_, rfl⟩
  obtain ⟨Y, hY⟩ : ∃ Y, Y = fI (y i) := ⟨_, rfl⟩
  rw [← hX] at pi1
  rw [← hY] at pi2
  have hfs : fb < w.heap.size := by
    rcases Nat.lt_or_ge fb w.heap.size with hlt | hge
    · exact hlt
    · rw [Array.getElem?_eq_none hge] at hfb; cases hfb
  have hc3 : ∀ o, (w.alloc o).cell? ⟨fb, 3, none⟩ = some (.float .f64 C) := fun o => by
    rw [cell_of_row _ fb 3 _ _ _ ((heap_alloc_old w o hfs).trans hfb)]; exact h3
  have hCall : ∀ w : World, w.cell? ⟨fb, 3, none⟩ = some (.float .f64 C) → Calls Yba.prog 56 #[.pointer (some ⟨fb, 3, none⟩), .agg #[.float .f64 X, .float .f64 Y]] w fun e w' => e = .returned (.agg #[.int .i64 (qx i), .int .i64 (qy i)]) ∧ w.grownBy w' none := fun w hw => by
    rw [hX, hY]; exact cellOf_any C (x i) (y i) (qx i) (qy i) ⟨fb, 3, none⟩ w i1 i2 i3 i4 hw
  obtain ⟨RR, hRR⟩ : ∃ RR, RR = fI r := ⟨_, rfl⟩
  rw [← hRR]
  have hWi : ∀ (j : Nat) (w : World), j < n → Calls Yba.prog 41 #[.agg #[.float .f64 X, .float .f64 Y], .agg #[.float .f64 (fI (x j)), .float .f64 (fI (y j))], .float .f64 RR] w fun e w' => e = .returned (.bool (near (x i) (y i) (x j) (y j) r)) ∧ w.grownBy w' none := fun j w hj => by
    obtain ⟨_, xj5, yj5⟩ := hp j hj
    rw [hX, hY, hRR]
    exact within_any (x i) (y i) (x j) (y j) r w (by omega) (by omega) (by omega) (by omega) (by omega) (by omega) (by omega)
  have HK : Hid (K = fun j => ((qx j : Int), (qy j : Int))) := hK
  have HKi : Hid (K i = ((qx i : Int), (qy i : Int))) := by show K i = _; rw [hK]
  have HSEL : Hid (∀ j, p j = (decide (j ≠ i) && near (x i) (y i) (x j) (y j) r)) := hsel
  have HP : Hid (∀ j, j < n → (w.cell? ⟨pb, j * 2, none⟩ = some (.float .f64 (fI (x j))) ∧ w.cell? ⟨pb, j * 2 + 1, none⟩ = some (.float .f64 (fI (y j)))) ∧ x j ≤ 500 ∧ y j ≤ 500) := hp
  have HW : Hid (∀ (j : Nat) (w : World), j < n → Calls Yba.prog 41 #[.agg #[.float .f64 X, .float .f64 Y], .agg #[.float .f64 (fI (x j)), .float .f64 (fI (y j))], .float .f64 RR] w fun e w' => e = .returned (.bool (near (x i) (y i) (x j) (y j) r)) ∧ w.grownBy w' none) := hWi
  have HPERM : Hid ((col K n p (K i) 9).Perm ((List.range n).filter p)) := hperm
  clear hX hY hRR hpd hcl hK hsel hp hWi hperm hI i1 i2
  have k1 : (i : Int) < (n : Int) := by omega
  have stf := st_float
  go_enter Yba.func43, Yba.ntmps43
  go_wp2_with (go_at_call 56; refine (hCall _ (hc3 _)).mono ?_; rintro e w1 ⟨rfl, hg1⟩)
  obtain ⟨a, ha⟩ : ∃ a : Int, a = (qx i : Int) := ⟨_, rfl⟩
  obtain ⟨b, hb⟩ : ∃ b : Int, b = (qy i : Int) := ⟨_, rfl⟩
  have a1 : 0 ≤ a := by omega
  have a2 : a ≤ 1000 := by omega
  have b1 : 0 ≤ b := by omega
  have b2 : b ≤ 1000 := by omega
  replace HKi : Hid (K i = (a, b)) := (by rw [HKi.out, ha, hb] : K i = (a, b))
  rw [← ha, ← hb]
  obtain ⟨V, hV⟩ : ∃ V, V = w1.alloc (.cells #[.int .i64 a, .int .i64 b] 126 (0, 0)) := ⟨_, rfl⟩
  have hV1 : V.heap[w1.heap.size]? = some (.cells #[.int .i64 a, .int .i64 b] 126 (0, 0)) := by rw [hV]; exact heap_alloc_new w1 _
  have hV0 : V.heap[w.heap.size]? = some (.cells #[.float .f64 X, .float .f64 Y] 100 (0, 0)) := by
    have hs : w.heap.size < (w.alloc (.cells #[.float .f64 X, .float .f64 Y] 100 (0, 0))).heap.size := by rw [World.size_alloc]; omega
    rw [hV, heap_alloc_old w1 _ (Nat.lt_of_lt_of_le hs hg1.size), hg1.block _ hs (by simp)]
    exact heap_alloc_new w _
  have g2 : w.grownBy V none := by rw [hV]; exact CSort.grown_trans (CSort.grown_trans (CSort.grown_alloc w _ none) hg1) (CSort.grown_alloc w1 _ none)
  rw [← hV]
  clear hV hg1 ha hb i3 i4 hCall hc3
  have hBV := hB.kept g2 (fun g e => by cases e)
  have hVF : V.heap[fb]? = some (.cells cur 96 (0, 0)) := (g2.block fb hfs (by simp)).trans hfb
  have v1 : V.cell? ⟨fb, 4, none⟩ = some (.map (some mb)) := by rw [cell_of_row _ fb 4 _ _ _ hVF]; exact h4
  have v2 : V.cell? ⟨w1.heap.size, 0, none⟩ = some (.int .i64 a) := by rw [cell_of_row _ _ 0 _ _ _ hV1]; rfl
  have v3 : V.cell? ⟨w1.heap.size, 1, none⟩ = some (.int .i64 b) := by rw [cell_of_row _ _ 1 _ _ _ hV1]; rfl
  have v4 : V.cell? ⟨w.heap.size, 0, none⟩ = some (.float .f64 X) := by rw [cell_of_row _ _ 0 _ _ _ hV0]; rfl
  have v5 : V.cell? ⟨w.heap.size, 1, none⟩ = some (.float .f64 Y) := by rw [cell_of_row _ _ 1 _ _ _ hV0]; rfl
  obtain ⟨B0, hB0⟩ : ∃ B0, B0 = w1.heap.size := ⟨_, rfl⟩
  rw [← hB0] at v2 v3 ⊢
  clear hV1 hV0 hB0 hB
  go_loopw [4, 14] (fun s4 s14 wr => ∃ (D : Nat) (dx : Int), s14 = .int .i64 dx ∧ dx = (D : Int) - 1 ∧ D ≤ 3 ∧ wr.ownsRow V.heap.size 21 1 s4 (col K n p (a, b) (3 * D)).length (row (col K n p (a, b) (3 * D))) ∧ V.grownBy wr none) (fun _ s14 _ => (2 - intOf s14).toNat)
  case atStart => exact ⟨0, -1, rfl, rfl, by omega, World.ownsRow_nil _ _ _ _, CSort.grown_refl _ _⟩
  case round =>
    obtain ⟨D, dx, rfl, hdx, hD, how, hG⟩ := hrel
    by_cases hD3 : D < 3
    · have d1 : -1 ≤ dx := by omega
      have d2 : dx ≤ 1 := by omega
      have HDX : Hid (dx = (D : Int) - 1) := hdx
      clear hdx
      go_wp2_with fail
      go_loopw [4, 15] (fun s4 s15 wq => ∃ (E : Nat) (dy : Int), s15 = .int .i64 dy ∧ dy = (E : Int) - 1 ∧ E ≤ 3 ∧ wq.ownsRow V.heap.size 21 1 s4 (col K n p (a, b) (3 * D + E)).length (row (col K n p (a, b) (3 * D + E))) ∧ V.grownBy wq none) (fun _ s15 _ => (2 - intOf s15).toNat)
      case atStart => exact ⟨0, -1, rfl, rfl, by omega, how, hG⟩
      case round =>
        clear how hG
        obtain ⟨E, dy, rfl, hdy, hE, how, hG⟩ := hrel
        by_cases hE3 : E < 3
        · have e1 : -1 ≤ dy := by omega
          have e2 : dy ≤ 1 := by omega
          have hkk : kk (a, b) (3 * D + E) = (a + dx, b + dy) := by
            unfold kk
            rw [show (3 * D + E) / 3 = D by omega, show (3 * D + E) % 3 = E by omega, HDX.out, hdy]
            exact Prod.ext (by show a + (D : Int) - 1 = a + ((D : Int) - 1); omega) (by show b + (E : Int) - 1 = b + ((E : Int) - 1); omega)
          have HDY : Hid (dy = (E : Int) - 1) := hdy
          obtain ⟨m, hm⟩ : ∃ m, m = 3 * D + E := ⟨_, rfl⟩
          have hcolS : col K n p (a, b) (m + 1) = col K n p (a, b) m ++ G K n p (a + dx, b + dy) := by rw [← hkk, ← hm]; rfl
          rw [← hm] at how
          have hm9 : m ≤ 8 := by omega
          have HM : Hid (m = 3 * D + E) := hm
          have HCOL : Hid (col K n p (a, b) (m + 1) = col K n p (a, b) m ++ G K n p (a + dx, b + dy)) := hcolS
          clear hdy hkk hm hcolS
          obtain ⟨v, hlk, hvo⟩ := hBV.find2 (a + dx, b + dy)
          unfold kv at hlk
          obtain ⟨L, hL⟩ : ∃ L, L = mem K n (a + dx, b + dy) := ⟨_, rfl⟩
          rw [← hL] at hvo
          have HL : Hid (L = mem K n (a + dx, b + dy)) := hL
          have hlen : L.length ≤ n := by rw [hL]; exact mem_len K n _
          have hLn : ∀ j ∈ L, j < n := fun j hj => by
            rw [hL] at hj
            unfold mem at hj
            simpa using (List.mem_filter.1 hj).1
          clear hL
          obtain ⟨va, vc, rfl, hvc⟩ := form3 hvo rfl
          have q1 := hG.cell v1 (by simp)
          have q2 := hG.cell v2 (by simp)
          have q3 := hG.cell v3 (by simp)
          have hlk1 := hlk wr.drew (hG.block mb hBV.size (by simp))
          have u1 : IntKind.i64.wrap (a + dx) = a + dx := CSort.wrap_small (by omega) (by omega)
          have u2 : IntKind.i64.wrap (b + dy) = b + dy := CSort.wrap_small (by omega) (by omega)
          clear hlk
          go_wp2_with fail
          go_region
          go_wp2_with fail
          have how0 := how.drew
          have hG0 : V.grownBy wr.drew none := CSort.grown_drewN hG 1
          go_loopw [4, 50] (fun s4 s50 wq => ∃ t : Nat, s50 = .int .i64 t ∧ t ≤ L.length ∧ wq.ownsRow V.heap.size 21 1 s4 (col K n p (a, b) m ++ (L.take t).filter p).length (row (col K n p (a, b) m ++ (L.take t).filter p)) ∧ V.grownBy wq none) (fun _ s50 _ => L.length - (intOf s50).toNat)
          case atStart => exact ⟨0, rfl, Nat.zero_le _, by simpa using how0, hG0⟩
          case round =>
            clear how hG how0 hG0 hlk1 q1 q2 q3
            obtain ⟨t, rfl, ht, how, hG⟩ := hrel
            by_cases htl : t < L.length
            · obtain ⟨gv, rfl, hcv⟩ := hvc (by omega)
              obtain ⟨j, hj⟩ : ∃ j, j = L[t] := ⟨_, rfl⟩
              have hjn : j < n := by rw [hj]; exact hLn _ (List.getElem_mem htl)
              have cv := hG.cell (hcv t htl) (by simp)
              rw [← hj] at cv
              have htake : (L.take (t + 1)).filter p = (L.take t).filter p ++ (if p j = true then [j] else []) := by
                rw [List.take_succ_eq_append_getElem htl, List.filter_append, ← hj]
                congr 1
                by_cases e : p j = true <;> simp [e]
              have HTK : Hid ((L.take (t + 1)).filter p = (L.take t).filter p ++ (if p j = true then [j] else [])) := htake
              clear hj htake hcv hvc
              obtain ⟨⟨pj1, pj2⟩, _, _⟩ := HP.out j hjn
              have w4 := hG.cell v4 (by simp)
              have w5 := hG.cell v5 (by simp)
              have w6 := hG.cell (g2.cell pj1 (by simp)) (by simp)
              have w7 := hG.cell (g2.cell pj2 (by simp)) (by simp)
              obtain ⟨XJ, hXJ⟩ : ∃ XJ, XJ = fI (x j) := ⟨_, rfl⟩
              obtain ⟨YJ, hYJ⟩ : ∃ YJ, YJ = fI (y j) := ⟨_, rfl⟩
              have HWJ : Hid (∀ w : World, Calls Yba.prog 41 #[.agg #[.float .f64 X, .float .f64 Y], .agg #[.float .f64 XJ, .float .f64 YJ], .float .f64 RR] w fun e w' => e = .returned (.bool (near (x i) (y i) (x j) (y j) r)) ∧ w.grownBy w' none) := (fun w => by rw [hXJ, hYJ]; exact HW.out j w hjn)
              rw [← hXJ] at w6
              rw [← hYJ] at w7
              clear hXJ hYJ pj1 pj2
              have t1 : (t : Int) < (L.length : Int) := by omega
              have j1 : (j : Int) < (n : Int) := by omega
              have j2 : (0 : Int) ≤ (j : Int) := by omega
              obtain ⟨ll, hll⟩ : ∃ ll, ll = col K n p (a, b) m ++ (L.take t).filter p := ⟨_, rfl⟩
              rw [← hll] at how
              have HLL : Hid (ll = col K n p (a, b) m ++ (L.take t).filter p) := hll
              have hlll : ll.length ≤ 20000 := by
                rw [hll, List.length_append]
                have h1 := col_len K n p (a, b) m
                have h2 : m * n ≤ 8 * 1024 := Nat.mul_le_mul hm9 hn
                have h3 := List.length_filter_le p (L.take t)
                rw [List.length_take] at h3
                omega
              clear hll
              go_upto_region 13 with fail
              go_cut [65] (fun s65 wx => s65 = .bool (p j) ∧ V.grownBy wx none ∧ wx.ownsRow V.heap.size 21 1 u4 ll.length (row ll))
              case first =>
                by_cases hji : j = i
                · have hf : p j = false := by rw [HSEL.out j, hji]; simp
                  have HF : Hid (p j = false) := hf
                  have hne : ((j : Int) == (i : Int)) = true := by simp [hji]
                  clear hf
                  go_quiet (fail)
                  go_wp2
                  go_meet
                  case rel => exact ⟨by rw [HF.out], CSort.grown_drewN hG _, how.kept (CSort.grown_drewN (CSort.grown_refl _ none) _) (by cases e : u4.ownBlock <;> simp)⟩
                · have hne : ((j : Int) == (i : Int)) = false := beq_eq_false_iff_ne.2 (by omega)
                  have hne1 : ((j : Int) != (i : Int)) = true := by simp [bne, hne]
                  have hne2 : (j == i) = false := beq_eq_false_iff_ne.2 hji
                  have hne3 : (j != i) = true := by simp [bne, hne2]
                  have hpj' : p j = near (x i) (y i) (x j) (y j) r := by rw [HSEL.out j]; simp [hji]
                  have HPJ : Hid (p j = near (x i) (y i) (x j) (y j) r) := hpj'
                  have hWj := HWJ.out
                  rw [← hpj'] at hWj
                  clear hpj'
                  obtain ⟨bb, hbb⟩ : ∃ bb, bb = p j := ⟨_, rfl⟩
                  rw [← hbb] at hWj
                  have HBB : Hid (bb = p j) := hbb
                  have HWj : Hid (∀ w : World, Calls Yba.prog 41 #[.agg #[.float .f64 X, .float .f64 Y], .agg #[.float .f64 XJ, .float .f64 YJ], .float .f64 RR] w fun e w' => e = .returned (.bool bb) ∧ w.grownBy w' none) := hWj
                  have HHOW : Hid (wr.ownsRow V.heap.size 21 1 u4 ll.length (row ll)) := how
                  have HHG : Hid (V.grownBy wr none) := hG
                  clear hbb hWj hLn hvo hBV how hG v1 v2 v3 v4 v5 hlen g2 hVF hfb h3 h4 xi5 yi5 pi1 pi2 cv stf hlll
                  go_region_held3 (fun w' => w'.cell? ⟨w.heap.size, 0, none⟩ = some (.float .f64 X) ∧ w'.cell? ⟨w.heap.size, 1, none⟩ = some (.float .f64 Y) ∧ w'.cell? ⟨pb, j * 2, none⟩ = some (.float .f64 XJ) ∧ w'.cell? ⟨pb, j * 2 + 1, none⟩ = some (.float .f64 YJ)) (first | go_keep | exact ⟨hg8.cell w4 (by simp), hg8.cell w5 (by simp), hg8.cell w6 (by simp), hg8.cell w7 (by simp)⟩) ((go_at_call 41; refine (HWj.out _).mono ?_; rintro e w8 ⟨rfl, hg8⟩))
                  all_goals go_wp2_with fail
                  all_goals go_meet
                  all_goals exact ⟨by rw [HBB.out], CSort.grown_trans (CSort.grown_drewN HHG.out 1) hg8, (HHOW.out.drew).kept hg8 (by cases e : u4.ownBlock <;> simp)⟩
              case rest =>
                obtain ⟨rfl, hG2, how2⟩ := hcut
                clear how hG w4 w5 w6 w7 cv HWJ
                by_cases hpj : p j = true
                · rw [hpj]
                  have HPJ : Hid (p j = true) := hpj
                  clear hpj
                  obtain ⟨i0, hi0, hz0, hz1, hz2⟩ := info_parts info21
                  go_wp2_with (at_builtin; refine wpList_append_own _ rfl _ _ 61 rfl V.heap.size 21 i0 _ 1 4 Yba.underlying61 hi0 hz0 hz1 hz2 rfl (by decide) u4 ll.length (row ll) rfl (how2.alloc _) ⟨wc.heap.size, 0, none⟩ 1 1 [.int .i32 (j : Int)] rfl rfl (World.news_of_block (cs := #[.int .i32 (j : Int)]) (t := 21) (fr := (0, 0)) (heap_alloc_new wc _)) (by simp [Value.oneCell']) (by unfold maxLen; omega) (by omega) (by have := hG2.size; simp; omega) ?_; intro v' w9 hown hgrow _)
                  have hG9 : V.grownBy w9 none := by
                    have g1 : V.grownBy (wc.alloc (.cells #[.int .i32 (j : Int)] 21 (0, 0))) none := CSort.grown_trans hG2 (CSort.grown_alloc wc _ none)
                    cases e : u4.ownBlock with
                    | none => rw [e] at hgrow; exact CSort.grown_trans g1 hgrow
                    | some g => rw [e] at hgrow; exact CSort.grown_new g1 hgrow (how2.lt g e).1
                  go_roundw
                  case rel => exact ⟨t + 1, by go_num, by omega, by rw [HTK.out, HPJ.out, if_pos rfl, ← List.append_assoc, ← HLL.out]; simpa [row] using hown, hG9⟩
                  case measure => simp [intOf]; omega
                · have hpj2 : p j = false := by simpa using hpj
                  rw [hpj2]
                  have HPJ : Hid (p j = false) := hpj2
                  clear hpj hpj2
                  go_wp2_with fail
                  go_roundw
                  case rel => exact ⟨t + 1, by go_num, by omega, by rw [HTK.out, HPJ.out]; simpa [← HLL.out] using how2, hG2⟩
                  case measure => simp [intOf]; omega
            · obtain rfl : t = L.length := by omega
              go_wp2_with fail
              go_roundw
              case rel => exact ⟨E + 1, dy + 1, by go_num, by have := HDY.out; omega, by omega, by rw [show 3 * D + (E + 1) = m + 1 by have := HM.out; omega, HCOL.out]; unfold G; rw [← HL.out]; simpa using how, hG⟩
              case measure => simp [intOf]; omega
        · have e1 : 1 < dy := by omega
          obtain rfl : E = 3 := by omega
          clear hdy
          go_wp2_with fail
          go_roundw
          case rel => exact ⟨D + 1, dx + 1, by go_num, by have := HDX.out; omega, by omega, by rw [show 3 * (D + 1) = 3 * D + 3 by omega]; exact how, hG⟩
          case measure => simp [intOf]; omega
    · have d1 : 1 < dx := by omega
      obtain rfl : D = 3 := by omega
      clear hdx
      have hper := HPERM.out
      rw [HKi.out] at hper
      have hle : (col K n p (a, b) 9).length ≤ n := by rw [hper.length_eq]; exact Nat.le_trans (List.length_filter_le _ _) (by simp)
      have hsz := g2.size
      have how9 : wr.ownsRow V.heap.size 21 1 u4 (col K n p (a, b) 9).length (row (col K n p (a, b) 9)) := how
      rcases how9.2 with ⟨rfl, h0⟩ | ⟨g, cap, cu, rfl, hbg, hgg, hc1, hc2, hc3, hc4⟩
      · have hnil : (List.range n).filter p = [] := by
          have : (col K n p (a, b) 9) = [] := List.eq_nil_of_length_eq_zero h0
          rw [this] at hper
          exact List.Perm.nil_eq hper |>.symm
        have HNIL : Hid ((List.range n).filter p = []) := hnil
        clear hper how how9 hnil
        go_wp2_with (go_at_call 57; refine (CSort.sort_nil _).mono ?_; rintro e w5 ⟨rfl, rfl⟩)
        go_ret
        exact ⟨_, rfl, by rw [HNIL.out]; exact World.ownsRow_nil _ _ _ _, CSort.grown_trans g2 hG⟩
      · obtain ⟨hRow, _, hcm⟩ := row_of_owns how9
        have hS := CSort.sort_any g cap _ wr (by simp; omega) hRow
        have hL9 : ((col K n p (a, b) 9).map (fun (j : Nat) => (j : Int))).toArray.size = (col K n p (a, b) 9).length := by simp
        rw [hL9] at hS
        have HPR : Hid ((col K n p (a, b) 9).Perm ((List.range n).filter p)) := hper
        have HS9 : Hid (∀ d', PermIn 0 (col K n p (a, b) 9).length ((col K n p (a, b) 9).map (fun (j : Nat) => (j : Int))).toArray d' → SortedIn ltInt 0 (col K n p (a, b) 9).length d' → d'.toList = ((List.range n).filter p).map (fun (j : Nat) => (j : Int))) := fun d' h1 h2 => sorted_col _ _ d' hper (List.Pairwise.filter _ List.pairwise_lt_range) h1 h2
        have hll : (col K n p (a, b) 9).length = ((List.range n).filter p).length := hper.length_eq
        have HLL : Hid ((col K n p (a, b) 9).length = ((List.range n).filter p).length) := hll
        clear hper how how9 hRow hgg hc3 hc4 hL9 hll
        generalize ((col K n p (a, b) 9).map (fun (j : Nat) => (j : Int))).toArray = dd at hS HS9
        generalize (col K n p (a, b) 9).length = ln at *
        go_wp2_with (go_at_call 57; refine hS.mono ?_; rintro e w5 ⟨d', rfl, hR5, hP5, hg5⟩)
        go_ret
        have hfin := owns_of_row (base := w.heap.size) hR5 (HS9.out d' hP5.1 hP5.2) (by omega) hcm
        rw [← HLL.out] at hfin
        exact ⟨_, rfl, by rw [← HLL.out]; exact hfin, CSort.grown_new (CSort.grown_trans g2 hG) hg5 (by omega)⟩
end Go.Proofs.Ybulkyyu.CMap
