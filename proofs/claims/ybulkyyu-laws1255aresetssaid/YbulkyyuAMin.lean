/- slices.Min at time.Duration, and the rows of integers that the law makes. -/
import Derived.Test.YbulkyyuProg
import Derived.WalkKit
import Derived.Below
import Derived.Laws.Rows
import Derived.WalkLawsBesides
import Derived.WalkSpells
namespace Go.Proofs.Ybulkyyu.AResets
open Go.RowKit

/-- The least of z 0 .. z (k - 1), z 0 where k is 0. -/
def mn (z : Nat → Int) : Nat → Int
  | 0 => z 0
  | k + 1 => if z k < mn z k then z k else mn z k
theorem mn_one (z : Nat → Int) : mn z 1 = z 0 := by simp [mn]

/-- Block b holds from its head on n numbers of kind k, the numbers z; none is frozen. -/
def RowAt (w : World) (b n : Nat) (k : IntKind) (z : Nat → Int) : Prop := ∀ j, j < n → w.cell? ⟨b, j, none⟩ = some (.int k (z j)) ∧ w.frozen? ⟨b, j, none⟩ = false

theorem RowAt.set {w : World} {b n : Nat} {k : IntKind} {z : Nat → Int} (h : RowAt w b n k z) (i : Nat) (v : Int) (z' : Nat → Int) (hz : ∀ j, j < n → z' j = if j = i then v else z j) :
    RowAt (w.setCell ⟨b, i, none⟩ (.int k v)) b n k z' := by
  intro j hj
  refine ⟨?_, by simp [(h j hj).2]⟩
  rw [hz j hj]
  by_cases e : j = i
  · subst e
    rw [if_pos rfl]
    exact World.cell?_setCell_same _ _ _ (h j hj).1
  · rw [if_neg e, World.cell?_setCell_other _ _ _ _ (by intro h; injection h with h1 h2; exact e h2.symm)]
    exact (h j hj).1

theorem RowAt.congr {w : World} {b n : Nat} {k : IntKind} {z z' : Nat → Int} (h : RowAt w b n k z) (hz : ∀ j, j < n → z' j = z j) : RowAt w b n k z' := by
  intro j hj
  rw [hz j hj]
  exact h j hj

/-- A row in a block that has not turned is as it was. -/
theorem RowAt.same {w w' : World} {b n : Nat} {k : IntKind} {z : Nat → Int} (h : RowAt w b n k z) (hb : w'.heap[b]? = w.heap[b]?) : RowAt w' b n k z := by
  intro j hj
  have e1 : w'.cell? ⟨b, j, none⟩ = w.cell? ⟨b, j, none⟩ := World.cell?_of_block hb
  have e2 : w'.frozen? ⟨b, j, none⟩ = w.frozen? ⟨b, j, none⟩ := World.frozen?_of_block hb
  rw [e1, e2]
  exact h j hj

set_option maxHeartbeats 400000 in
theorem min_any (b n : Nat) (z : Nat → Int) (w : World) (hn : 0 < n) (hl : n ≤ 1024) (hc : RowAt w b n .i64 z) :
    Calls Yba.prog 24 #[.slice (some ⟨b, 0, none⟩) n n] w fun e w' => e = .returned (.int .i64 (mn z n)) ∧ w' = w := by
  have h0 := (hc 0 hn).1
  go_enter Yba.func24, Yba.ntmps24
  go_wp2
  go_loop [3, 4] (fun m i => ∃ k : Nat, k ≤ n ∧ i = .int .i64 k ∧ m = .int .i64 (mn z k)) (fun _ i => n - (intOf i).toNat)
  case atStart => exact ⟨1, by omega, rfl, by rw [mn_one]⟩
  case round =>
    obtain ⟨k, hk, rfl, rfl⟩ := hrel
    by_cases hlt : k < n
    · have hck := (hc k hlt).1
      go_wp2
      go_round
      case rel => exact ⟨k + 1, by omega, by go_num, rfl⟩
      case measure => simp [intOf]; omega
    · obtain rfl : k = n := by omega
      go_wp2
      go_ret
      exact ⟨rfl, rfl⟩

/-- (*neighbourTable).unlist: the table lies in block g, its numbers in block b. -/
def tab (c0 c1 c2 v3 e l k c7 c8 : Value) : Array Value := #[c0, c1, c2, v3, e, l, k, c7, c8]
set_option maxHeartbeats 400000 in
theorem unlist_some (g b n : Nat) (z : Nat → Int) (c0 c1 c2 c7 c8 e0 l0 k0 : Value) (w : World) (hn : 0 < n) (hl : n ≤ 1024) (hgb : b < g) (hc : RowAt w b n .i64 z)
    (hg : w.heap[g]? = some (.cells #[c0, c1, c2, .slice (some ⟨b, 0, none⟩) n n, e0, l0, k0, c7, c8] 34 (0, 0))) :
    Calls Yba.prog 9 #[.pointer (some ⟨g, 0, none⟩)] w fun e w' => e = .returned (.tuple #[]) ∧
      w' = ((w.setCell ⟨g, 5, none⟩ (.bool false)).setCell ⟨g, 6, none⟩ (.slice none 0 0)).setCell ⟨g, 4, none⟩ (.int .i64 (mn z n)) := by
  have q3 := cell_of_row w g 3 _ _ _ hg
  have q4 := cell_of_row w g 4 _ _ _ hg
  have q5 := cell_of_row w g 5 _ _ _ hg
  have q6 := cell_of_row w g 6 _ _ _ hg
  have r4 := frozen_of_row w g 4 _ _ hg
  have r5 := frozen_of_row w g 5 _ _ hg
  have r6 := frozen_of_row w g 6 _ _ hg
  simp at q3 q4 q5 q6
  have hc2 : RowAt ((w.setCell ⟨g, 5, none⟩ (.bool false)).setCell ⟨g, 6, none⟩ (.slice none 0 0)) b n .i64 z :=
    (hc.same (heap_setCell_other w ⟨g, 5, none⟩ b _ (by show b ≠ g; omega))).same (heap_setCell_other _ ⟨g, 6, none⟩ b _ (by show b ≠ g; omega))
  clear hg hc
  go_enter Yba.func9, Yba.ntmps9
  go_wp2_with (go_at_call 24; refine (min_any b n z _ hn hl hc2).mono ?_; rintro e w' ⟨rfl, rfl⟩)
  go_end0
  exact ⟨rfl, rfl⟩

set_option maxHeartbeats 400000 in
theorem unlist_none (g : Nat) (a : Option Addr) (c : Nat) (c0 c1 c2 c7 c8 e0 l0 k0 : Value) (w : World) 
    (hg : w.heap[g]? = some (.cells #[c0, c1, c2, .slice a 0 c, e0, l0, k0, c7, c8] 34 (0, 0))) :
    Calls Yba.prog 9 #[.pointer (some ⟨g, 0, none⟩)] w fun e w' => e = .returned (.tuple #[]) ∧
      w' = (w.setCell ⟨g, 5, none⟩ (.bool false)).setCell ⟨g, 6, none⟩ (.slice none 0 0) := by
  have q3 := cell_of_row w g 3 _ _ _ hg
  have q4 := cell_of_row w g 4 _ _ _ hg
  have q5 := cell_of_row w g 5 _ _ _ hg
  have q6 := cell_of_row w g 6 _ _ _ hg
  have r4 := frozen_of_row w g 4 _ _ hg
  have r5 := frozen_of_row w g 5 _ _ hg
  have r6 := frozen_of_row w g 6 _ _ hg
  simp at q3 q4 q5 q6
  clear hg
  go_enter Yba.func9, Yba.ntmps9
  go_wp2
  go_end0
  exact ⟨rfl, rfl⟩
end Go.Proofs.Ybulkyyu.AResets
