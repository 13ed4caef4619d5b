/- fieldMaskRoom: the room of a slice of strings. -/
import Derived.Test.YbulkzayProg
import Derived.WalkKit
import Derived.Below
import Derived.Laws.Rows
import Derived.WalkLawsBesides
import Derived.WalkSpells
namespace Go.Proofs.Ybulkzay.Room
open Go.RowKit

/-- The bytes of the first k strings. -/
def tot (s : Nat → ByteArray) : Nat → Nat
  | 0 => 0
  | k + 1 => tot s k + (s k).size
theorem tot_le (s : Nat → ByteArray) (n : Nat) (h : ∀ j, j < n → (s j).size ≤ 1048576) : ∀ k, k ≤ n → tot s k ≤ k * 1048576 := by
  intro k
  induction k with
  | zero => intro _; simp [tot]
  | succ k ih =>
    intro hk
    have h1 := ih (by omega)
    have h2 := h k (by omega)
    rw [tot]
    omega
theorem tot_congr (s s' : Nat → ByteArray) : ∀ k, (∀ j, j < k → s j = s' j) → tot s k = tot s' k := by
  intro k
  induction k with
  | zero => intro _; rfl
  | succ k ih =>
    intro h
    rw [tot, tot, ih (fun j hj => h j (by omega)), h k (by omega)]

/-- A slice of n strings at address a. -/
def StrAt (w : World) (a : Option Addr) (n : Nat) (s : Nat → ByteArray) : Prop := 0 < n → ∃ b off, a = some ⟨b, off, none⟩ ∧ b < w.heap.size ∧ ∀ j, j < n → w.cell? ⟨b, off + j, none⟩ = some (.string (s j))

theorem ret_int {k : IntKind} {a b : Int} (h : a = b) : Ending.returned (.int k a) = .returned (.int k b) := by rw [h]
def room (s : Nat → ByteArray) (n : Nat) : Nat := (n - 1) + tot s n

set_option maxHeartbeats 400000 in
theorem room_any (a : Option Addr) (n c : Nat) (s : Nat → ByteArray) (w : World) (hn : n ≤ 1025) (hs : ∀ j, j < n → (s j).size ≤ 1048576) (ha : StrAt w a n s) :
    Calls Yba.prog 5 #[.slice a n c] w fun e w' => e = .returned (.int .i64 (room s n)) ∧ w' = w := by
  by_cases h0 : n = 0
  · subst h0
    go_enter Yba.func5, Yba.ntmps5
    go_wp2
    refine wp_loop_rounds 1 ?_
    rw [rounds_succ]
    go_wp2
    go_ret
    exact ⟨rfl, rfl⟩
  · obtain ⟨b, off, rfl, hb, hc⟩ := ha (by omega)
    have h1 : (1 : Int) ≤ (n : Int) := by omega
    have hmx : ¬ ((n : Int) - 1 < 0) := by omega
    clear h0
    go_enter Yba.func5, Yba.ntmps5
    go_wp2
    go_loop [3, 12] (fun t i => ∃ k : Nat, k ≤ n ∧ i = .int .i64 k ∧ t = .int .i64 ((n : Int) - 1 + (tot s k : Int))) (fun _ i => n - (intOf i).toNat)
    case atStart => exact ⟨0, by omega, rfl, by simp [tot]⟩
    case round =>
      obtain ⟨k, hk, rfl, rfl⟩ := hrel
      have ht := tot_le s n hs k hk
      by_cases hlt : k < n
      · have hck := hc k hlt
        have hsk := hs k hlt
        go_wp2
        go_round
        case rel => exact ⟨k + 1, by omega, by go_num, by rw [tot]; go_num⟩
        case measure => simp [intOf]; omega
      · obtain rfl : k = n := by omega
        go_wp2
        go_ret
        exact ⟨ret_int (by unfold room; omega), rfl⟩
end Go.Proofs.Ybulkzay.Room
