/- pdqsortOrdered at int32: by induction on the range's length. -/
import Derived.Test.YbulkyyuCBreak
import Derived.Test.YbulkyyuCPartEq
import Derived.Test.YbulkyyuCPart
import Derived.Test.YbulkyyuCPartial
namespace Go.Proofs.Ybulkyyu.CSort
open Go.RowKit Go.Sort

/-- What stands at the loop's head: who finishes [a', b') finishes [a, b). -/
structure At (a b : Nat) (d : Array Int) (a' b' : Nat) (D : Array Int) : Prop where
  lo : a ≤ a'
  mid : a' ≤ b'
  hi : b' ≤ b
  bs : b ≤ D.size
  perm : PermIn a b d D
  below : Go.Sort.Below ltInt a' b' D
  fin : ∀ D', PermIn a' b' D D' → SortedIn ltInt a' b' D' → SortedIn ltInt a b D'

theorem At.start {a b : Nat} {d : Array Int} (hab : a ≤ b) (hb : b ≤ d.size) (h : Go.Sort.Below ltInt a b d) : At a b d a b d :=
  ⟨Nat.le_refl _, hab, Nat.le_refl _, hb, permIn_refl _ _ _, h, fun _ _ h => h⟩

theorem At.done {a b : Nat} {d : Array Int} {a' b' : Nat} {D D' : Array Int} (h : At a b d a' b' D) (hp : PermIn a' b' D D') (hs : SortedIn ltInt a' b' D') : PermIn a b d D' ∧ SortedIn ltInt a b D' :=
  ⟨permIn_trans _ _ _ _ _ h.perm (permIn_mono D D' a' b' a b h.lo h.hi h.bs hp), h.fin D' hp hs⟩

theorem At.step {a b : Nat} {d : Array Int} {a' b' : Nat} {D D' : Array Int} (h : At a b d a' b' D) (hp : PermIn a' b' D D') : At a b d a' b' D' :=
  ⟨h.lo, h.mid, h.hi, by rw [hp.1]; exact h.bs, permIn_trans _ _ _ _ _ h.perm (permIn_mono D D' a' b' a b h.lo h.hi h.bs hp), h.below.perm (Nat.le_trans h.hi h.bs) hp, fun D'' h1 h2 => h.fin D'' (permIn_trans _ _ _ _ _ hp h1) h2⟩

/-- Behind partitionEqual. -/
theorem At.eq {a b : Nat} {d : Array Int} {a' b' : Nat} {D D' : Array Int} {mid pv : Nat} (h : At a b d a' b' D) (h0 : 0 < a') (hle : ltInt D[a' - 1]! D[pv]! = false)
    (hm1 : a' < mid) (hm2 : mid ≤ b') (hp : PermIn a' b' D D') (hl : ∀ t, a' ≤ t → t < mid → ltInt D[pv]! D'[t]! = false) (hr : ∀ t, mid ≤ t → t < b' → ltInt D[pv]! D'[t]! = true) : At a b d mid b' D' := by
  have hst := h.step hp
  have hS := swo_ltInt
  have hBD : ∀ i, a' ≤ i → i < b' → ltInt D[i]! D[a' - 1]! = false := by
    rcases h.below with e | e
    · omega
    · exact e
  have hall : ∀ t, a' ≤ t → t < b' → ltInt D'[t]! D[pv]! = false := by
    refine permIn_all D D' a' b' (fun x => ltInt x D[pv]! = false) (Nat.le_trans h.hi h.bs) hp fun i i1 i2 => ?_
    exact hS.ntrans _ _ _ (hBD i i1 i2) hle
  refine ⟨Nat.le_trans h.lo (by omega), hm2, h.hi, hst.bs, hst.perm, ?_, fun D'' p1 p2 => ?_⟩
  · refine .inr fun i i1 i2 => ?_
    have e1 := hl (mid - 1) (by omega) (by omega)
    cases hc : ltInt D'[i]! D'[mid - 1]! with
    | false => rfl
    | true =>
      have := hS.trans _ _ _ (hr i i1 i2) hc
      rw [e1] at this; cases this
  · have hp2 : PermIn a' b' D' D'' := permIn_mono D' D'' mid b' a' b' (by omega) (Nat.le_refl _) (Nat.le_trans hst.hi hst.bs) p1
    refine hst.fin D'' hp2 (sorted_glue_eq hS D[pv]! p2 (fun i i1 i2 => ?_) (fun i i1 i2 => ?_) (fun i i1 i2 => ?_))
    · rw [p1.2.1 i (.inl i2)]; exact hl i i1 i2
    · rw [p1.2.1 i (.inl i2)]; exact hall i i1 (by omega)
    · exact permIn_all D' D'' mid b' (fun x => ltInt D[pv]! x = true) (Nat.le_trans hst.hi hst.bs) p1 hr i i1 i2

/-- Behind partition and the sort of the left part. -/
theorem At.left {a b : Nat} {d : Array Int} {a' b' : Nat} {D D1 D2 : Array Int} {mid : Nat} (h : At a b d a' b' D) (hm1 : a' ≤ mid) (hm2 : mid < b') (hp : PermIn a' b' D D1)
    (hl : ∀ t, a' ≤ t → t < mid → ltInt D1[t]! D1[mid]! = true) (hr : ∀ t, mid < t → t < b' → ltInt D1[t]! D1[mid]! = false) (hq : PermIn a' mid D1 D2) (hs : SortedIn ltInt a' mid D2) : At a b d (mid + 1) b' D2 := by
  have h1 := h.step hp
  have hb : b' ≤ D1.size := Nat.le_trans h1.hi h1.bs
  have hq2 : PermIn a' b' D1 D2 := permIn_mono D1 D2 a' mid a' b' (Nat.le_refl _) (by omega) hb hq
  have h2 := h1.step hq2
  have em : D2[mid]! = D1[mid]! := hq.2.1 mid (.inr (Nat.le_refl _))
  have hr2 : ∀ t, mid < t → t < b' → ltInt D2[t]! D2[mid]! = false := fun t t1 t2 => by rw [em, hq.2.1 t (.inr (by omega))]; exact hr t t1 t2
  have hl2 : ∀ t, a' ≤ t → t < mid → ltInt D2[t]! D2[mid]! = true := fun t t1 t2 => by
    rw [em]
    exact permIn_all D1 D2 a' mid (fun x => ltInt x D1[mid]! = true) (by omega) hq hl t t1 t2
  have hb2 : b' ≤ D2.size := Nat.le_trans h2.hi h2.bs
  refine ⟨Nat.le_trans h.lo (by omega), by omega, h.hi, h2.bs, h2.perm, .inr fun i i1 i2 => ?_, fun D3 p1 p2 => ?_⟩
  · rw [Nat.add_sub_cancel]; exact hr2 i (by omega) i2
  · have hp3 : PermIn a' b' D2 D3 := permIn_mono D2 D3 (mid + 1) b' a' b' (by omega) (Nat.le_refl _) hb2 p1
    have e3 : D3[mid]! = D2[mid]! := p1.2.1 mid (.inl (by omega))
    refine h2.fin D3 hp3 (sorted_glue swo_ltInt (SortedIn.congr hs fun i i1 i2 => p1.2.1 i (.inl (by omega))) p2 (fun i i1 i2 => ?_) (fun i i1 i2 => ?_))
    · rw [e3, p1.2.1 i (.inl (by omega))]; exact hl2 i i1 i2
    · rw [e3]
      exact permIn_all D2 D3 (mid + 1) b' (fun x => ltInt x D2[mid]! = false) hb2 p1 (fun t t1 t2 => hr2 t (by omega) t2) i (by omega) i2

/-- Behind partition and the sort of the right part. -/
theorem At.right {a b : Nat} {d : Array Int} {a' b' : Nat} {D D1 D2 : Array Int} {mid : Nat} (h : At a b d a' b' D) (hm1 : a' ≤ mid) (hm2 : mid < b') (hp : PermIn a' b' D D1)
    (hl : ∀ t, a' ≤ t → t < mid → ltInt D1[t]! D1[mid]! = true) (hr : ∀ t, mid < t → t < b' → ltInt D1[t]! D1[mid]! = false) (hq : PermIn (mid + 1) b' D1 D2) (hs : SortedIn ltInt (mid + 1) b' D2) : At a b d a' mid D2 := by
  have h1 := h.step hp
  have hb : b' ≤ D1.size := Nat.le_trans h1.hi h1.bs
  have hq2 : PermIn a' b' D1 D2 := permIn_mono D1 D2 (mid + 1) b' a' b' (by omega) (Nat.le_refl _) hb hq
  have h2 := h1.step hq2
  have em : D2[mid]! = D1[mid]! := hq.2.1 mid (.inl (by omega))
  have hr2 : ∀ t, mid < t → t < b' → ltInt D2[t]! D2[mid]! = false := fun t t1 t2 => by
    rw [em]
    exact permIn_all D1 D2 (mid + 1) b' (fun x => ltInt x D1[mid]! = false) hb hq (fun s s1 s2 => hr s (by omega) s2) t (by omega) t2
  have hl2 : ∀ t, a' ≤ t → t < mid → ltInt D2[t]! D2[mid]! = true := fun t t1 t2 => by rw [em, hq.2.1 t (.inl (by omega))]; exact hl t t1 t2
  have hb2 : b' ≤ D2.size := Nat.le_trans h2.hi h2.bs
  refine ⟨h.lo, hm1, Nat.le_trans (by omega) h.hi, h2.bs, h2.perm, h2.below.mono (by omega), fun D3 p1 p2 => ?_⟩
  have hp3 : PermIn a' b' D2 D3 := permIn_mono D2 D3 a' mid a' b' (Nat.le_refl _) (by omega) hb2 p1
  have e3 : D3[mid]! = D2[mid]! := p1.2.1 mid (.inr (Nat.le_refl _))
  refine h2.fin D3 hp3 (sorted_glue swo_ltInt p2 (SortedIn.congr hs fun i i1 i2 => p1.2.1 i (.inr (by omega))) (fun i i1 i2 => ?_) (fun i i1 i2 => ?_))
  · rw [e3]
    exact permIn_all D2 D3 a' mid (fun x => ltInt x D2[mid]! = true) (by omega) p1 hl2 i i1 i2
  · rw [e3, p1.2.1 i (.inr (by omega))]; exact hr2 i i1 i2

set_option maxRecDepth 100000 in
set_option maxHeartbeats 4000000 in
theorem pdq_any (N : Nat) : ∀ (g cap a b : Nat) (lim : Int) (d : Array Int) (w : World), b - a < N → a ≤ b → b ≤ d.size → d.size ≤ 4096 → Go.Sort.Below ltInt a b d → Row w g cap d →
    Calls Yba.prog 65 #[.slice (some ⟨g, 0, none⟩) d.size cap, .int .i64 a, .int .i64 b, .int .i64 lim] w fun e w' =>
      ∃ d' : Array Int, e = .returned (.tuple #[]) ∧ Row w' g cap d' ∧ (PermIn a b d d' ∧ SortedIn ltInt a b d') ∧ w.grownBy w' (some g) := by
  induction N with
  | zero => intro g cap a b lim d w h; omega
  | succ N ih =>
  intro g cap a b lim d w hN hab hb hd hB hR
  have hr0 := grown_refl w (some g)
  have hA0 := At.start hab hb hB
  go_enter Yba.func65, Yba.ntmps65
  go_wp2_with fail
  go_loopw [1, 2, 3, 8, 9] (fun s1 s2 s3 s8 s9 wr => ∃ (a' b' : Nat) (L : Int) (wb wp : Bool) (D : Array Int), s1 = .int .i64 a' ∧ s2 = .int .i64 b' ∧ s3 = .int .i64 L ∧ s8 = .bool wb ∧ s9 = .bool wp ∧ D.size = d.size ∧ At a b d a' b' D ∧ Row wr g cap D ∧ w.grownBy wr (some g)) (fun s1 s2 _ _ _ _ => (intOf s2).toNat - (intOf s1).toNat)
  case atStart => exact ⟨a, b, lim, true, true, d, rfl, rfl, rfl, rfl, rfl, rfl, hA0, hR, hr0⟩
  case round =>
    obtain ⟨a', b', L, wb, wp, D, rfl, rfl, rfl, rfl, rfl, hsz, hA, hRD, hgD⟩ := hrel
    have hlo := hA.lo
    have hmi := hA.mid
    have hhi := hA.hi
    have hbs := hA.bs
    obtain ⟨l, hl⟩ : ∃ l, l = b' - a' := ⟨_, rfl⟩
    have e1 : (b' : Int) - (a' : Int) = l := by omega
    have HL : Hid (l = b' - a') := hl
    have g1 : (l : Int) ≤ 4096 := by omega
    have g2 : (a' : Int) ≤ 4096 := by omega
    have g3 : (b' : Int) ≤ 4096 := by omega
    clear hl hA0 hR hr0
    by_cases h12 : l ≤ 12
    · have k1 : (l : Int) ≤ 12 := by omega
      go_wp2_with fail
      rw [← hsz]
      refine (insertion_any g cap a' b' D wr hmi (by omega) (by omega) hRD).mono ?_
      rintro e w1 ⟨rfl, hR1, hg1⟩
      go_wp2_with fail
      have hI := insertionSort_holds swo_ltInt D a' b' hmi (by omega)
      refine bodyPost_ret (results_none rfl _ _ _) rfl ⟨_, rfl, hR1, hA.done hI.1 hI.2, grown_trans hgD hg1⟩
    · have k1 : (12 : Int) < (l : Int) := by omega
      have hlt : a' < b' := by have := HL.out; omega
      by_cases hL : L = 0
      · subst hL
        go_wp2_with fail
        rw [← hsz]
        refine (heap_any g cap a' b' D wr hlt (by omega) (by omega) hRD).mono ?_
        rintro e w1 ⟨rfl, hR1, hg1⟩
        go_wp2_with fail
        have hI := heapSort_holds swo_ltInt D a' b' hmi (by omega)
        refine bodyPost_ret (results_none rfl _ _ _) rfl ⟨_, rfl, hR1, hA.done hI.1 hI.2, grown_trans hgD hg1⟩
      · have k2 : (L == 0) = false := beq_eq_false_iff_ne.2 hL
        clear hL
        go_upto_if 35 with fail
        go_cut [3] (fun s3 wx => ∃ (L : Int) (D : Array Int), s3 = .int .i64 L ∧ D.size = d.size ∧ At a b d a' b' D ∧ Row wx g cap D ∧ w.grownBy wx (some g))
        case first =>
          cases wb with
          | true =>
            go_wp2_with fail
            go_meet
            case rel => exact ⟨L, D, rfl, hsz, hA, hRD, hgD⟩
          | false =>
            go_wp2_with fail
            rw [← hsz]
            refine (break_any g cap a' b' D wr hmi (by omega) (by omega) hRD).mono ?_
            rintro e w1 ⟨D1, rfl, hR1, hP1, hg1⟩
            go_wp2_with fail
            go_meet
            case rel => exact ⟨_, D1, rfl, hP1.1.trans hsz, hA.step hP1, hR1, grown_trans hgD hg1⟩
        case rest =>
          obtain ⟨L, D1, rfl, hsz1, hA1, hR1, hg1⟩ := hcut
          clear hRD hgD hA hsz
          go_wp2_with fail
          have hPv := pivot_any g cap a' b' D1 wc hlt (by omega) (by omega) hR1
          rw [hsz1] at hPv
          refine hPv.mono ?_
          rintro e w2 ⟨x, k, rfl, hk, hx1, hx2, hg2⟩
          have hR2 : Row w2 g cap D1 := hR1.same (hg2.block g hR1.lt (by simp))
          have hgw2 : w.grownBy w2 (some g) := grown_trans hg1 ⟨hg2.os, hg2.tape, hg2.output, hg2.size, fun i hi _ => hg2.block i hi (by simp)⟩
          clear hR1 hg1 hg2 hPv
          go_upto_if 50 with fail
          go_cut [11, 12] (fun s11 s12 wx => ∃ (x : Nat) (k : Int) (D : Array Int), s11 = .int .i64 x ∧ s12 = .int .i64 k ∧ a' ≤ x ∧ x < b' ∧ D.size = d.size ∧ At a b d a' b' D ∧ Row wx g cap D ∧ w.grownBy wx (some g))
          case first =>
            by_cases hk2 : k = 2
            · subst hk2
              have k3 : (x : Int) ≤ 4096 := by omega
              go_wp2_with fail
              have hRv := reverse_any g cap a' b' D1 w2 hlt (by omega) (by omega) hR2
              rw [hsz1] at hRv
              refine hRv.mono ?_
              rintro e w3 ⟨rfl, hR3, hg3⟩
              go_wp2_with fail
              go_meet
              case rel =>
                have hP := reverseRange_holds D1 a' b' hmi (by omega)
                exact ⟨b' - 1 - (x - a'), 1, _, by go_num, rfl, by omega, by omega, hP.1.trans hsz1, hA1.step hP, hR3, grown_trans hgw2 hg3⟩
            · have k3 : (k == 2) = false := beq_eq_false_iff_ne.2 hk2
              clear hk2
              go_wp2_with fail
              go_meet
              case rel => exact ⟨x, k, D1, rfl, rfl, hx1, hx2, hsz1, hA1, hR2, hgw2⟩
          case rest =>
            clear hx1 hx2 hk hR2 hgw2 hA1 hsz1
            obtain ⟨x, k, D3, rfl, rfl, hx1, hx2, hsz3, hA3, hR3, hg3⟩ := hcut
            obtain ⟨wv, hwv⟩ : ∃ wv : World, wv = wc := ⟨_, rfl⟩
            go_upto_region 15 with fail
            go_cut [68] (fun s68 wx => ∃ c : Bool, s68 = .bool c ∧ wx = wv)
            case first =>
              cases wb <;> cases wp
              · go_wp2_with fail
                go_meet
                case rel => exact ⟨_, rfl, hwv.symm⟩
              · go_wp2_with fail
                go_meet
                case rel => exact ⟨_, rfl, hwv.symm⟩
              · go_wp2_with fail
                go_meet
                case rel => exact ⟨_, rfl, hwv.symm⟩
              · go_wp2_with fail
                go_meet
                case rel => exact ⟨_, rfl, hwv.symm⟩
            case rest =>
            obtain ⟨c, rfl, hwx⟩ := hcut
            subst hwx
            subst hwv
            go_upto_if 68 with fail
            go_cut [72] (fun _ wx => ∃ (D : Array Int), D.size = d.size ∧ At a b d a' b' D ∧ Row wx g cap D ∧ w.grownBy wx (some g))
            case first =>
              cases c with
              | true =>
                go_wp2_with fail
                have hPa := partial_any g cap a' b' D3 wc hlt (by omega) (by omega) hR3
                rw [hsz3] at hPa
                refine hPa.mono ?_
                have hpp := partialInsertionSort_holds swo_ltInt D3 a' b' hlt (by omega) hA3.below
                rintro e w4 ⟨rfl, hR4, hg4⟩
                obtain ⟨c, hc⟩ : ∃ c, c = (partialInsertionSort ltInt D3 a' b').2 := ⟨_, rfl⟩
                rw [← hc] at hpp ⊢
                clear hc
                cases c with
                | true =>
                  go_wp2_with fail
                  refine bodyPost_ret (results_none rfl _ _ _) rfl ⟨_, rfl, hR4, hA3.done hpp.1 (hpp.2 trivial), grown_trans hg3 hg4⟩
                | false =>
                  go_wp2_with fail
                  go_meet
                  case rel => exact ⟨_, hpp.1.1.trans hsz3, hA3.step hpp.1, hR4, grown_trans hg3 hg4⟩
              | false =>
                go_wp2_with fail
                go_meet
                case rel => exact ⟨D3, hsz3, hA3, hR3, hg3⟩
            case rest =>
              obtain ⟨D4, hsz4, hA4, hR4, hg4⟩ := hcut
              clear hsz3 hA3 hR3 hg3
              go_upto_region 17 with fail
              go_cut [87] (fun s87 wx => ∃ c : Bool, s87 = .bool c ∧ (c = true → 0 < a' ∧ ltInt D4[a' - 1]! D4[x]! = false) ∧ Row wx g cap D4 ∧ w.grownBy wx (some g))
              case first =>
                by_cases h0 : 0 < a'
                · obtain ⟨a0, ha0⟩ : ∃ a0, a' = a0 + 1 := ⟨a' - 1, by omega⟩
                  have k5 : (0 : Int) < (a' : Int) := by omega
                  have k6 : (a' : Int) - 1 = (a0 : Int) := by omega
                  have k7 : (a0 : Int) < (d.size : Int) := by omega
                  have k8 : (x : Int) < (d.size : Int) := by omega
                  obtain ⟨u, hu⟩ : ∃ u, u = D4[a0]! := ⟨_, rfl⟩
                  obtain ⟨v, hv⟩ : ∃ v, v = D4[x]! := ⟨_, rfl⟩
                  have c1 := hR4.cell a0 (by omega)
                  have c2 := hR4.cell x (by omega)
                  rw [← hu] at c1
                  rw [← hv] at c2
                  have HU : Hid (u = D4[a0]!) := hu
                  have HV : Hid (v = D4[x]!) := hv
                  have HA : Hid (a' = a0 + 1) := ha0
                  clear hu hv ha0
                  go_quiet ((go_at_call 79; exact Calls.quiet_of_same (less_any _ _ _)))
                  go_wp2
                  go_meet
                  case rel => exact ⟨_, rfl, fun hc => ⟨h0, by have := HA.out; subst this; rw [Nat.add_sub_cancel, ← HU.out, ← HV.out]; simpa using hc⟩, hR4.drewN _, grown_drewN hg4 _⟩
                · have k5 : (a' : Int) = 0 := by omega
                  have k6 : decide ((0 : Int) < (a' : Int)) = false := decide_eq_false (by omega)
                  go_quiet ((go_at_call 79; exact Calls.quiet_of_same (less_any _ _ _)))
                  go_wp2
                  go_meet
                  case rel => exact ⟨false, rfl, fun h => (by cases h), hR4.drewN _, grown_drewN hg4 _⟩
              case rest =>
                obtain ⟨c, rfl, hc, hR5, hg5⟩ := hcut
                clear hR4 hg4
                cases c with
                | true =>
                  obtain ⟨h0, hle⟩ := hc rfl
                  have HLE : Hid (ltInt D4[a' - 1]! D4[x]! = false) := hle
                  clear hc hle
                  have hPe := partEq_any g cap a' b' x D4 wc hx1 hx2 (by omega) (by omega) hR5
                  rw [hsz4] at hPe
                  go_wp2_with fail
                  refine hPe.mono ?_
                  rintro e w6 ⟨mid, D6, rfl, hR6, hg6, hm1, hm2, hP6, hl6, hr6⟩
                  have hA6 := hA4.eq h0 HLE.out hm1 hm2 hP6 hl6 hr6
                  clear hPe hl6 hr6
                  go_wp2_with fail
                  go_roundw
                  case rel => exact ⟨mid, b', L, wb, wp, D6, rfl, rfl, rfl, rfl, rfl, hP6.1.trans hsz4, hA6, hR6, grown_trans hg5 hg6⟩
                  case measure => simp [intOf]; omega
                | false =>
                  clear hc
                  have hPe := part_any g cap a' b' x D4 wc hx1 hx2 (by omega) (by omega) hR5
                  rw [hsz4] at hPe
                  go_wp2_with fail
                  refine hPe.mono ?_
                  rintro e w6 ⟨mid, ap, D6, rfl, hR6, hg6, hm1, hm2, hP6, hl6, hr6⟩
                  clear hPe
                  have hsz6 := hP6.1.trans hsz4
                  have hA6 := hA4.step hP6
                  have hBL : Go.Sort.Below ltInt a' mid D6 := hA6.below.mono (by omega)
                  have hBR : Go.Sort.Below ltInt (mid + 1) b' D6 := .inr fun i i1 i2 => by rw [Nat.add_sub_cancel]; exact hr6 i (by omega) i2
                  have hLt := fun D7 hq hs => At.left (D2 := D7) hA4 hm1 hm2 hP6 hl6 hr6 hq hs
                  have hRt := fun D7 hq hs => At.right (D2 := D7) hA4 hm1 hm2 hP6 hl6 hr6 hq hs
                  have hg6' := grown_trans hg5 hg6
                  clear hl6 hr6 hP6 hA6 hR5 hg5 hg6
                  obtain ⟨ll, hll⟩ : ∃ ll, ll = mid - a' := ⟨_, rfl⟩
                  obtain ⟨rl, hrl⟩ : ∃ rl, rl = b' - mid := ⟨_, rfl⟩
                  have m1 : (mid : Int) - (a' : Int) = ll := by omega
                  have m2 : (b' : Int) - (mid : Int) = rl := by omega
                  have m3 : (mid : Int) ≤ 4096 := by omega
                  have m4 : (ll : Int) ≤ 4096 := by omega
                  have m5 : (rl : Int) ≤ 4096 := by omega
                  have H1 : Hid (ll = mid - a') := hll
                  have H2 : Hid (rl = b' - mid) := hrl
                  clear hll hrl
                  by_cases hlr : ll < rl
                  · have m6 : (ll : Int) < (rl : Int) := by omega
                    have hCall := ih g cap a' mid L D6 w6 (by omega) hm1 (by omega) (by omega) hBL hR6
                    rw [hsz6] at hCall
                    go_wp2_with fail
                    refine hCall.mono ?_
                    rintro e w7 ⟨D7, rfl, hR7, hS7, hg7⟩
                    go_wp2_with fail
                    go_roundw
                    case rel => exact ⟨mid + 1, b', L, _, ap, D7, by go_num, rfl, rfl, rfl, rfl, hS7.1.1.trans hsz6, hLt D7 hS7.1 hS7.2, hR7, grown_trans hg6' hg7⟩
                    case measure => simp [intOf]; omega
                  · have m6 : (rl : Int) ≤ (ll : Int) := by omega
                    have hCall := ih g cap (mid + 1) b' L D6 w6 (by omega) (by omega) (by omega) (by omega) hBR hR6
                    rw [hsz6, show ((mid + 1 : Nat) : Int) = (mid : Int) + 1 from rfl] at hCall
                    go_wp2_with fail
                    refine hCall.mono ?_
                    rintro e w7 ⟨D7, rfl, hR7, hS7, hg7⟩
                    go_wp2_with fail
                    go_roundw
                    case rel => exact ⟨a', mid, L, _, ap, D7, rfl, rfl, rfl, rfl, rfl, hS7.1.1.trans hsz6, hRt D7 hS7.1 hS7.2, hR7, grown_trans hg6' hg7⟩
                    case measure => simp [intOf]; omega
end Go.Proofs.Ybulkyyu.CSort
