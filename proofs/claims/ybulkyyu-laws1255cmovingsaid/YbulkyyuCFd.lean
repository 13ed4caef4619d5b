/- A field's twelve cells; what a store of a walk's thirteen cells does. -/
import Derived.Test.YbulkyyuCField
import Derived.Test.YbulkyyuCNear
import Derived.Test.YbulkyyuCWalks
namespace Go.Proofs.Ybulkyyu.CLaw
open Go.RowKit
open Go.Proofs.Ybulkyyu.CF (fI fInf)
open Go.Proofs.Ybulkyyu.CMap (st_float)

theorem info104 : (Yba.prog.info? 104).map (fun i => (i.zero, i.size, i.bytes)) = some (some (.agg #[.pointer none, .pointer none, .float .f64 0, .float .f64 0, .float .f64 0, .float .f64 0, .float .f64 0, .float .f64 0, .float .f64 0, .float .f64 0, .int .i64 0, .int .i64 0, .int .i64 0]), 13, 104) := by kernel_rfl
def wzero : Value := .agg #[.pointer none, .pointer none, .float .f64 0, .float .f64 0, .float .f64 0, .float .f64 0, .float .f64 0, .float .f64 0, .float .f64 0, .float .f64 0, .int .i64 0, .int .i64 0, .int .i64 0]
theorem make90 (n : Nat) (hn : n ≤ 4096) (W : World) :
    (Instr.makeSlice 90 (.int .i64 n) (.int .i64 n)).run Yba.prog W = .ok (.slice (some ⟨W.heap.size, 0, none⟩) n n) (W.alloc (.cells (zer wzero 13 n) 104)) := by
  obtain ⟨i, hi, hz0, hz1, hz2⟩ := info_parts info104
  have h := run_make (P := Yba.prog) W 90 104 i _ Yba.underlying90 hi hz0 .i64 .i64 (n : Int) (n : Int) (by omega) (by omega) (by rw [hz2]; omega) (by omega)
  rw [hz1, Int.toNat_natCast] at h
  exact h

/-- Block fb is a field of twelve cells f. -/
def Fd (w : World) (fb : Nat) (f : Nat → Value) : Prop := ∃ cur, w.heap[fb]? = some (.cells cur 96 (0, 0)) ∧ cur.size = 12 ∧ ∀ i, i < 12 → cur[i]? = some (f i)
theorem Fd.set {w : World} {fb : Nat} {f : Nat → Value} (h : Fd w fb f) (k : Nat) (v : Value) (hk : k < 12) : Fd (w.setCell ⟨fb, k, none⟩ v) fb (CMv.upd f k v) := by
  obtain ⟨cur, a1, a2, a3⟩ := h
  refine ⟨_, heap_setCell_same w fb k cur 96 v a1, by simpa using a2, fun i hi => ?_⟩
  unfold CMv.upd
  by_cases e : i = k
  · subst e
    rw [if_pos rfl, Array.getElem?_setIfInBounds_self_of_lt (by omega)]
  · rw [if_neg e, Array.getElem?_setIfInBounds_ne (by omega)]
    exact a3 i hi
theorem Fd.cell {w : World} {fb : Nat} {f : Nat → Value} (h : Fd w fb f) (k : Nat) (hk : k < 12) : w.cell? ⟨fb, k, none⟩ = some (f k) := by
  obtain ⟨cur, a1, a2, a3⟩ := h
  rw [cell_of_row _ _ _ _ _ _ a1]
  exact a3 k hk
theorem Fd.frozen {w : World} {fb : Nat} {f : Nat → Value} (h : Fd w fb f) (k : Nat) : w.frozen? ⟨fb, k, none⟩ = false := by
  obtain ⟨cur, a1, a2, a3⟩ := h
  exact frozen_of_row _ _ _ _ _ a1
theorem Fd.at {w w' : World} {fb : Nat} {f : Nat → Value} (h : Fd w fb f) (he : w'.heap[fb]? = w.heap[fb]?) : Fd w' fb f := by
  obtain ⟨cur, a1, a2⟩ := h
  exact ⟨cur, he.trans a1, a2⟩
theorem Fd.lt {w : World} {fb : Nat} {f : Nat → Value} (h : Fd w fb f) : fb < w.heap.size := by
  obtain ⟨cur, a1, a2⟩ := h
  exact CMv.heap_lt a1
theorem lt12 {P : Nat → Prop} (h0 : P 0) (h1 : P 1) (h2 : P 2) (h3 : P 3) (h4 : P 4) (h5 : P 5) (h6 : P 6) (h7 : P 7) (h8 : P 8) (h9 : P 9) (h10 : P 10) (h11 : P 11) : ∀ k, k < 12 → P k := fun k hk => by
  match k, hk with
  | 0, _ => exact h0 | 1, _ => exact h1 | 2, _ => exact h2 | 3, _ => exact h3 | 4, _ => exact h4 | 5, _ => exact h5 | 6, _ => exact h6
  | 7, _ => exact h7 | 8, _ => exact h8 | 9, _ => exact h9 | 10, _ => exact h10 | 11, _ => exact h11
/-- The field as it is made: R its reach, sb its starts. -/
def mf (sb n R : Nat) : Nat → Value
  | 0 => .slice (some ⟨sb, 0, none⟩) n n | 1 => .float .f64 R | 2 => .slice none 0 0 | 3 => .float .f64 0 | 4 => .map none | 5 => .slice none 0 0
  | 6 => .int .i64 0 | 7 => .float .f64 0 | 8 => .int .i64 0 | 9 => .slice none 0 0 | 10 => .slice none 0 0 | _ => .int .i64 0

def list13 (v0 v1 v2 v3 v4 v5 v6 v7 v8 v9 v10 v11 v12 : Value) : Nat → Value
  | 0 => v0 | 1 => v1 | 2 => v2 | 3 => v3 | 4 => v4 | 5 => v5 | 6 => v6 | 7 => v7 | 8 => v8 | 9 => v9 | 10 => v10 | 11 => v11 | _ => v12
open CMv in
theorem ch13 (w : World) (wb o : Nat) (v0 v1 v2 v3 v4 v5 v6 v7 v8 v9 v10 v11 v12 : Value) : Ch (fun q => q = wb) w (((((((((((((w.setCell ⟨wb, o, none⟩ v0).setCell ⟨wb, o + 1, none⟩ v1).setCell ⟨wb, o + 2, none⟩ v2).setCell ⟨wb, o + 3, none⟩ v3).setCell ⟨wb, o + 4, none⟩ v4).setCell ⟨wb, o + 5, none⟩ v5).setCell ⟨wb, o + 6, none⟩ v6).setCell ⟨wb, o + 7, none⟩ v7).setCell ⟨wb, o + 8, none⟩ v8).setCell ⟨wb, o + 9, none⟩ v9).setCell ⟨wb, o + 10, none⟩ v10).setCell ⟨wb, o + 11, none⟩ v11).setCell ⟨wb, o + 12, none⟩ v12) := ((((((((((((((Ch.refl (fun q => q = wb) w).setCell wb _ _ (fun _ => rfl)).setCell wb _ _ (fun _ => rfl)).setCell wb _ _ (fun _ => rfl)).setCell wb _ _ (fun _ => rfl)).setCell wb _ _ (fun _ => rfl)).setCell wb _ _ (fun _ => rfl)).setCell wb _ _ (fun _ => rfl)).setCell wb _ _ (fun _ => rfl)).setCell wb _ _ (fun _ => rfl)).setCell wb _ _ (fun _ => rfl)).setCell wb _ _ (fun _ => rfl)).setCell wb _ _ (fun _ => rfl)).setCell wb _ _ (fun _ => rfl))
open CMv in
theorem wk13 {w : World} {wb o : Nat} {c0 : Array Value} {v : Nat → Value} (h : Wk w wb o c0 v) (v0 v1 v2 v3 v4 v5 v6 v7 v8 v9 v10 v11 v12 : Value) : Wk (((((((((((((w.setCell ⟨wb, o, none⟩ v0).setCell ⟨wb, o + 1, none⟩ v1).setCell ⟨wb, o + 2, none⟩ v2).setCell ⟨wb, o + 3, none⟩ v3).setCell ⟨wb, o + 4, none⟩ v4).setCell ⟨wb, o + 5, none⟩ v5).setCell ⟨wb, o + 6, none⟩ v6).setCell ⟨wb, o + 7, none⟩ v7).setCell ⟨wb, o + 8, none⟩ v8).setCell ⟨wb, o + 9, none⟩ v9).setCell ⟨wb, o + 10, none⟩ v10).setCell ⟨wb, o + 11, none⟩ v11).setCell ⟨wb, o + 12, none⟩ v12) wb o c0 (list13 v0 v1 v2 v3 v4 v5 v6 v7 v8 v9 v10 v11 v12) :=
  Wk.congr (((((((((((((h.set 0 _ (by decide)).set 1 _ (by decide)).set 2 _ (by decide)).set 3 _ (by decide)).set 4 _ (by decide)).set 5 _ (by decide)).set 6 _ (by decide)).set 7 _ (by decide)).set 8 _ (by decide)).set 9 _ (by decide)).set 10 _ (by decide)).set 11 _ (by decide)).set 12 _ (by decide)) (lt13 rfl rfl rfl rfl rfl rfl rfl rfl rfl rfl rfl rfl rfl)
theorem grown_ch {w a b : World} {wb : Nat} (h : w.grownBy a none) (hc : CMv.Ch (fun q => q = wb) a b) (hw : w.heap.size ≤ wb) : w.grownBy b none :=
  ⟨hc.os.trans h.os, hc.tape.trans h.tape, hc.output.trans h.output, Nat.le_trans h.size hc.size, fun k hk hn => (hc.block k (Nat.lt_of_lt_of_le hk h.size) (fun e => by have e' : k = wb := e; omega)).trans (h.block k hk hn)⟩

end Go.Proofs.Ybulkyyu.CLaw
