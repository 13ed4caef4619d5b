/- appendSpans: what it appends, for every prefix of the call's own. -/
import Derived.Test.YbulkyyuProg
import Derived.Test.YbulkyyuBPlain
import Derived.WalkKit
import Derived.Below
import Derived.Laws.Rows
import Derived.WalkLawsBesides
import Derived.WalkSpells
import Derived.Deep.QuietTactic
import Derived.BigQuiet
import Derived.Deep.DeepCutAuto
import Derived.Deep.RegionHeld3
import Derived.Deep.AppendLies
namespace Go.Proofs.Ybulkyyu.BSpans
open Go.RowKit

theorem Yba.info47 : (Yba.prog.info? 47).map (fun i => (i.zero, i.size, i.bytes)) = some (some (.agg #[.int .u32 0, .int .u32 0, .int .u32 0, .int .u32 0]), 4, 16) := by kernel_rfl

/-- A slice of n numbers that came in, below block B. -/
def Came (B : Nat) (k : IntKind) (w : World) (a : Option Addr) (n : Nat) (z : Nat → Int) : Prop := 0 < n → ∃ b off, a = some ⟨b, off, none⟩ ∧ b < B ∧ ∀ j, j < n → w.cell? ⟨b, off + j, none⟩ = some (.int k (z j))

def spanCells (o r : Int) (z : Nat → Int) (p : Nat × Nat) : List Value := [.int .u32 o, .int .u32 r, .int .u32 (z p.1), .int .u32 (z p.2)]
def cellsOf (o r : Int) (z : Nat → Int) (l : List (Nat × Nat)) : List Value := l.flatMap (spanCells o r z)

theorem span_any (k x y : Int) (w : World) : Calls Yba.prog 34 #[.int .u64 k, .int .u32 x, .int .u32 y] w fun e w' =>
    e = .returned (.agg #[.int .u32 (k / 4294967296 % 4294967296), .int .u32 (k % 4294967296), .int .u32 x, .int .u32 y]) ∧ w' = w.alloc (.cells #[.int .u32 (k / 4294967296 % 4294967296), .int .u32 (k % 4294967296), .int .u32 x, .int .u32 y] 47) := by
  go_enter Yba.func34, Yba.ntmps34
  go_wp2
  exact bodyPost_ret (v := .agg #[.int .u32 (k / 4294967296 % 4294967296), .int .u32 (k % 4294967296), .int .u32 x, .int .u32 y]) (by simp [results, Yba.results34, go_sem]) rfl ⟨rfl, rfl⟩

theorem own_step {w : World} {base n0 : Nat} {v : Value} {xs : List Value} {o r : Int} {z : Nat → Int} {h g : Nat} (hx : ix z (g + 1) = ix z h ++ [(h, g)])
    (hown : w.ownsRow base 47 4 v (n0 + (ix z h).length + 1) (xs ++ cellsOf o r z (ix z h) ++ [.int .u32 o, .int .u32 r, .int .u32 (z h), .int .u32 (z g)])) :
    w.ownsRow base 47 4 v (n0 + (ix z (g + 1)).length) (xs ++ cellsOf o r z (ix z (g + 1))) := by
  rw [hx]
  have e : cellsOf o r z (ix z h ++ [(h, g)]) = cellsOf o r z (ix z h) ++ [.int .u32 o, .int .u32 r, .int .u32 (z h), .int .u32 (z g)] := by simp [cellsOf, spanCells]
  rw [e, List.length_append, ← List.append_assoc]
  exact hown

set_option maxRecDepth 100000 in
set_option maxHeartbeats 1000000 in
theorem spans_any (base : Nat) (v : Value) (n0 : Nat) (xs : List Value) (k : Int) (a : Option Addr) (n c : Nat) (z : Nat → Int) (w : World) (hn : n ≤ 1024) (h0 : n0 ≤ 1024)
    (hown : w.ownsRow base 47 4 v n0 xs) (hbase : base ≤ w.heap.size) (hc : Came base .u32 w a n z) :
    Calls Yba.prog 15 #[v, .int .u64 k, .slice a n c] w fun e w' => ∃ v', e = .returned v' ∧ w'.ownsRow base 47 4 v' (n0 + (ix z n).length) (xs ++ cellsOf (k / 4294967296 % 4294967296) (k % 4294967296) z (ix z n)) ∧ Below base w w' := by
  obtain ⟨i0, hi, hz0, hz1, hz2⟩ := info_parts Yba.info47
  go_enter Yba.func15, Yba.ntmps15
  go_wp2
  go_loopw [0, 7, 8] (fun s i _ wr => ∃ h : Nat, h ≤ n ∧ i = .int .i64 h ∧ (h = n ∨ h = 0 ∨ cons z (h - 1) = false) ∧ wr.ownsRow base 47 4 s (n0 + (ix z h).length) (xs ++ cellsOf (k / 4294967296 % 4294967296) (k % 4294967296) z (ix z h)) ∧ Below base w wr) (fun _ i _ _ => n - (intOf i).toNat)
  case atStart => exact ⟨0, Nat.zero_le _, rfl, .inr (.inl rfl), by simpa [ix, cellsOf] using hown, Below.refl _ _⟩
  case round =>
    obtain ⟨h, hh, rfl, hst, how, hbel⟩ := hrel
    by_cases hlt : h < n
    · obtain ⟨b, off, rfl, hb, hcell⟩ := hc (by omega)
      obtain ⟨wo, rfl⟩ : ∃ wo : World, wo = wr := ⟨_, rfl⟩
      go_wp2
      go_loopw [8] (fun j wr => ∃ g : Nat, h ≤ g ∧ g < n ∧ j = .int .i64 g ∧ ix z (g + 1) = ix z h ++ [(h, g)] ∧ ∃ q, wr = wo.drewN q) (fun j _ => n - (intOf j).toNat)
      case atStart => exact ⟨h, Nat.le_refl _, hlt, rfl, ix_start z h (by rcases hst with h1 | h1; (· omega); exact h1), 0, rfl⟩
      case round =>
        obtain ⟨g, hg1, hg2, rfl, hix, q, rfl⟩ := hrel
        have HX := hix
        replace HX : Hid (ix z (g + 1) = ix z h ++ [(h, g)]) := hix
        clear hix
        by_cases hl2 : g + 1 < n
        · have hgd : (g : Int) + 1 < (n : Int) := by omega
          have hc1 : wo.cell? ⟨b, off + g, none⟩ = some (.int .u32 (z g)) := (hbel.cell hb).trans (hcell g hg2)
          have hc2 : wo.cell? ⟨b, off + (g + 1), none⟩ = some (.int .u32 (z (g + 1))) := (hbel.cell hb).trans (hcell (g + 1) hl2)
          have e1 : (0 : Int) ≤ (g : Int) := by omega
          have e2 : (g : Int) < (n : Int) := by omega
          have e3 : (0 : Int) ≤ (g : Int) + 1 := by omega
          by_cases hcc : cons z g = true
          · have hcc' : ((z g + 1) % 4294967296 == z (g + 1)) = true := hcc
            go_wp2
            go_quiet (fail)
            go_wp2
            go_roundw
            case rel => exact ⟨g + 1, by omega, by omega, by go_num, ix_next z h g HX.out hcc, _, rfl⟩
            case measure => simp [intOf]; omega
          · have hcc' : ((z g + 1) % 4294967296 == z (g + 1)) = false := by simpa [cons] using hcc
            go_wp2
            go_quiet (fail)
            go_wp2_with fail
            have how2 : ((wo.drewN q).drewN nq).ownsRow base 47 4 u0 (n0 + (ix z h).length) (xs ++ cellsOf (k / 4294967296 % 4294967296) (k % 4294967296) z (ix z h)) := how
            have hbel2 : Below base w ((wo.drewN q).drewN nq) := below_drewN (below_drewN hbel _) _
            have hA : ((wo.drewN q).drewN nq).cell? ⟨b, off + h, none⟩ = some (.int .u32 (z h)) := (hbel2.cell hb).trans (hcell h hlt)
            have hB : ((wo.drewN q).drewN nq).cell? ⟨b, off + g, none⟩ = some (.int .u32 (z g)) := (hbel2.cell hb).trans (hcell g hg2)
            have hbW : base ≤ ((wo.drewN q).drewN nq).heap.size := Nat.le_trans hbase hbel2.size
            generalize (wo.drewN q).drewN nq = W at how2 hbel2 hA hB hbW ⊢
            have hlen := (ix_len z h).1
            have ak : u0.ownBlock ≠ some b := fun e => by have := (how2.lt _ e).1; omega
            have hWb : b < W.heap.size := by omega
            have x1 : (0 : Int) ≤ (h : Int) := by omega
            have x2 : (h : Int) < (n : Int) := by omega
            have x3 : (0 : Int) ≤ (g : Int) := by omega
            have x4 : (g : Int) < (n : Int) := by omega
            go_region_held3 (fun w' => w'.cell? ⟨b, off + h, none⟩ = some (.int .u32 (z h)) ∧ w'.cell? ⟨b, off + g, none⟩ = some (.int .u32 (z g))) (first | go_keep | (go_split_ands; refine ⟨?_, ?_⟩ <;> (rw [hgrow.cell_far _ (by simp; omega) (Ne.symm ak)]; go_keep))) ((first | (go_at_call 34; refine (span_any k (z h) (z g) _).mono ?_; rintro e w' ⟨rfl, rfl⟩) | (refine step_append_lies _ (by rfl) _ _ _ (by rfl) base 47 i0 _ 4 16 Yba.underlying42 hi hz0 hz1 hz2 rfl (by omega) u0 (n0 + (ix z h).length) (xs ++ cellsOf (k / 4294967296 % 4294967296) (k % 4294967296) z (ix z h)) (by rfl) (((how2.alloc _).alloc _).drew) ⟨W.heap.size + 1, 0, none⟩ 1 1 [.int .u32 (k / 4294967296 % 4294967296), .int .u32 (k % 4294967296), .int .u32 (z h), .int .u32 (z g)] (by rfl) (by rfl) (World.news_of_block (cs := #[.int .u32 (k / 4294967296 % 4294967296), .int .u32 (k % 4294967296), .int .u32 (z h), .int .u32 (z g)]) (t := 47) (fr := (0, 0)) (heap_alloc2_new W _ _)) (by simp [Value.oneCell']) (by omega) (by unfold maxLen; omega) (by omega) (by simp; omega) (W.heap.size + 2) (by simp) ?_; intro gg cap w1 hown1 hgrow hat hltg)))
            have R := own_step HX.out hown1
            have hbel3 : Below base w w1 := (((hbel2.alloc hbW _).alloc (by simp; omega) _).drew).grown hgrow (by simp; omega) (fun k e => (how2.lt k e).1)
            clear hown1 hgrow how2 hbel2 hA hB
            go_wp2
            go_roundw
            case rel => exact ⟨g + 1, by omega, by go_num, .inr (.inr (by simpa using hcc)), R, hbel3⟩
            case measure => simp [intOf]; omega
        · have hgd : decide ((g : Int) + 1 < (n : Int)) = false := decide_eq_false (by omega)
          go_wp2
          go_quiet (fail)
          go_wp2_with fail
          have how2 : ((wo.drewN q).drewN nq).ownsRow base 47 4 u0 (n0 + (ix z h).length) (xs ++ cellsOf (k / 4294967296 % 4294967296) (k % 4294967296) z (ix z h)) := how
          have hbel2 : Below base w ((wo.drewN q).drewN nq) := below_drewN (below_drewN hbel _) _
          have hA : ((wo.drewN q).drewN nq).cell? ⟨b, off + h, none⟩ = some (.int .u32 (z h)) := (hbel2.cell hb).trans (hcell h hlt)
          have hB : ((wo.drewN q).drewN nq).cell? ⟨b, off + g, none⟩ = some (.int .u32 (z g)) := (hbel2.cell hb).trans (hcell g hg2)
          have hbW : base ≤ ((wo.drewN q).drewN nq).heap.size := Nat.le_trans hbase hbel2.size
          generalize (wo.drewN q).drewN nq = W at how2 hbel2 hA hB hbW ⊢
          have hlen := (ix_len z h).1
          have ak : u0.ownBlock ≠ some b := fun e => by have := (how2.lt _ e).1; omega
          have hWb : b < W.heap.size := by omega
          have x1 : (0 : Int) ≤ (h : Int) := by omega
          have x2 : (h : Int) < (n : Int) := by omega
          have x3 : (0 : Int) ≤ (g : Int) := by omega
          have x4 : (g : Int) < (n : Int) := by omega
          go_region_held3 (fun w' => w'.cell? ⟨b, off + h, none⟩ = some (.int .u32 (z h)) ∧ w'.cell? ⟨b, off + g, none⟩ = some (.int .u32 (z g))) (first | go_keep | (go_split_ands; refine ⟨?_, ?_⟩ <;> (rw [hgrow.cell_far _ (by simp; omega) (Ne.symm ak)]; go_keep))) ((first | (go_at_call 34; refine (span_any k (z h) (z g) _).mono ?_; rintro e w' ⟨rfl, rfl⟩) | (refine step_append_lies _ (by rfl) _ _ _ (by rfl) base 47 i0 _ 4 16 Yba.underlying42 hi hz0 hz1 hz2 rfl (by omega) u0 (n0 + (ix z h).length) (xs ++ cellsOf (k / 4294967296 % 4294967296) (k % 4294967296) z (ix z h)) (by rfl) (((how2.alloc _).alloc _).drew) ⟨W.heap.size + 1, 0, none⟩ 1 1 [.int .u32 (k / 4294967296 % 4294967296), .int .u32 (k % 4294967296), .int .u32 (z h), .int .u32 (z g)] (by rfl) (by rfl) (World.news_of_block (cs := #[.int .u32 (k / 4294967296 % 4294967296), .int .u32 (k % 4294967296), .int .u32 (z h), .int .u32 (z g)]) (t := 47) (fr := (0, 0)) (heap_alloc2_new W _ _)) (by simp [Value.oneCell']) (by omega) (by unfold maxLen; omega) (by omega) (by simp; omega) (W.heap.size + 2) (by simp) ?_; intro gg cap w1 hown1 hgrow hat hltg)))
          have R := own_step HX.out hown1
          have hbel3 : Below base w w1 := (((hbel2.alloc hbW _).alloc (by simp; omega) _).drew).grown hgrow (by simp; omega) (fun k e => (how2.lt k e).1)
          clear hown1 hgrow how2 hbel2 hA hB
          go_wp2
          go_roundw
          case rel => exact ⟨g + 1, by omega, by go_num, .inl (by omega), R, hbel3⟩
          case measure => simp [intOf]; omega
    · obtain rfl : h = n := by omega
      go_wp2
      go_ret
      exact ⟨_, rfl, how, hbel⟩
end Go.Proofs.Ybulkyyu.BSpans
