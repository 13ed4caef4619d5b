/- The walk of LawS1255CStatic. -/
import Derived.Test.YbulkyyuCNear
namespace Go.Proofs.Ybulkyyu.CLaw
open Go.RowKit
open Go.Proofs.Ybulkyyu.CF (fI Idx idx_whole idx_inf fInf)

theorem form21 {w : World} {b : Nat} {v : Value} {l : List Nat} (h : w.ownsRow b 21 1 v l.length (row l)) :
    ∃ a c, v = .slice a l.length c ∧ (0 < l.length → ∃ g, a = some ⟨g, 0, none⟩ ∧ ∀ i, i < l.length → w.cell? ⟨g, i, none⟩ = some (.int .i32 ((l.getD i 0 : Nat) : Int))) := by
  by_cases hl : 0 < l.length
  · obtain ⟨g, cap, rfl, hb, hlt⟩ := h.form hl
    refine ⟨_, cap, rfl, fun _ => ⟨g, rfl, fun i hi => ?_⟩⟩
    rw [h.cellAt i (by omega)]
    simp [row, hi]
  · rcases h.2 with ⟨rfl, h0⟩ | ⟨g, cap, cur, rfl, _⟩
    · exact ⟨none, 0, by rw [h0], fun h => absurd h hl⟩
    · exact ⟨_, cap, rfl, fun h => absurd h hl⟩

theorem nodes_below {B : Nat} {w w' : World} {a : Option Addr} {n : Nat} {X Y : Nat → Int} (h : Nodes B w a n X Y) (hb : Below B w w') (hs : B ≤ w'.heap.size) : Nodes w'.heap.size w' a n X Y := by
  obtain ⟨b, off, rfl, hlt, hc⟩ := h
  refine ⟨b, off, rfl, by omega, fun j hj => ?_⟩
  obtain ⟨⟨c1, c2⟩, r⟩ := hc j hj
  exact ⟨⟨(hb.cell hlt).trans c1, (hb.cell hlt).trans c2⟩, r⟩

theorem links_below {w w' : World} {fb lb n : Nat} {L : Nat → List Nat} (h : Links w fb lb n L) (hb : w.grownBy w' none) : Links w' fb lb n L := by
  obtain ⟨⟨cur, hF, h2, h5⟩, hv⟩ := h
  have hlt : fb < w.heap.size := by
    rcases Nat.lt_or_ge fb w.heap.size with hlt | hge
    · exact hlt
    · rw [Array.getElem?_eq_none hge] at hF; cases hF
  refine ⟨⟨cur, (hb.block fb hlt (by simp)).trans hF, h2, h5⟩, fun j hj => ?_⟩
  obtain ⟨v, a1, a2⟩ := hv j hj
  exact ⟨v, hb.cell a1 (by simp), a2.kept hb (by cases e : v.ownBlock <;> simp)⟩

theorem sel_shift (X Y : Nat → Int) (r : Int) (i j : Nat) : sel (fun j => 2 + X j) (fun j => 2 + Y j) r i j = sel X Y r i j := by
  unfold sel
  rw [show (2 + X i) - (2 + X j) = X i - X j by omega, show (2 + Y i) - (2 + Y j) = Y i - Y j by omega]

/-- Near nodes lie in cells side by side. -/
theorem beside (x y c : Nat) (hc : 0 < c) (h : ((x : Int) - y) * ((x : Int) - y) ≤ (c : Int) * c) : ((x / c : Nat) : Int) - 1 ≤ ((y / c : Nat) : Int) ∧ ((y / c : Nat) : Int) ≤ ((x / c : Nat) : Int) + 1 := by
  have hab : ((x : Int) - y).natAbs ≤ c := by
    rcases Nat.lt_or_ge c ((x : Int) - y).natAbs with hlt | hge
    · have h1 : (c + 1) * (c + 1) ≤ ((x : Int) - y).natAbs * ((x : Int) - y).natAbs := Nat.mul_le_mul hlt hlt
      have h2 : ((((x : Int) - y).natAbs * ((x : Int) - y).natAbs : Nat) : Int) = ((x : Int) - y) * ((x : Int) - y) := Int.natAbs_mul_self
      have h3 : ((c * c : Nat) : Int) = (c : Int) * c := by simp
      have h4 : (c + 1) * (c + 1) = c * c + 2 * c + 1 := by rw [Nat.add_mul, Nat.mul_add]; omega
      omega
    · exact hge
  have a1 := Nat.div_add_mod x c
  have a2 := Nat.mod_lt x hc
  have b1 := Nat.div_add_mod y c
  have b2 := Nat.mod_lt y hc
  have up : y / c ≤ x / c + 1 := by
    rw [Nat.div_le_iff_le_mul_add_pred hc]
    rw [Nat.mul_add]
    omega
  have dn : x / c ≤ y / c + 1 := by
    rw [Nat.div_le_iff_le_mul_add_pred hc]
    rw [Nat.mul_add]
    omega
  omega
end Go.Proofs.Ybulkyyu.CLaw
