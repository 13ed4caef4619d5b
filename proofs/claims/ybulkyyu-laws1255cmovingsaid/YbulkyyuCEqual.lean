/- slices.Equal at int32: of two slices that hold the same numbers, true. -/
import Derived.Test.YbulkyyuCModel
namespace Go.Proofs.Ybulkyyu.CLaw
open Go.RowKit

set_option maxRecDepth 100000 in
set_option maxHeartbeats 400000 in
theorem equal_any (x y : Option Addr) (n c1 c2 : Nat) (q : Nat → Int) (w : World) (hn : n ≤ 4096)
    (hx : 0 < n → ∃ g, x = some ⟨g, 0, none⟩ ∧ ∀ i, i < n → w.cell? ⟨g, i, none⟩ = some (.int .i32 (q i)))
    (hy : 0 < n → ∃ g, y = some ⟨g, 0, none⟩ ∧ ∀ i, i < n → w.cell? ⟨g, i, none⟩ = some (.int .i32 (q i))) :
    Calls Yba.prog 22 #[.slice x n c1, .slice y n c2] w fun e w' => e = .returned (.bool true) ∧ ∃ t, w' = w.drewN t := by
  go_enter Yba.func22, Yba.ntmps22
  go_wp2
  go_loopw [5, 13] (fun _ i wr => ∃ k : Nat, k ≤ n ∧ i = .int .i64 k ∧ ∃ t, wr = w.drewN t) (fun _ i _ => n - (intOf i).toNat)
  case atStart => exact ⟨0, Nat.zero_le _, rfl, 0, rfl⟩
  case round =>
    obtain ⟨k, hk, rfl, t, rfl⟩ := hrel
    by_cases hlt : k < n
    · obtain ⟨b1, rfl, hc1⟩ := hx (by omega)
      obtain ⟨b2, rfl, hc2⟩ := hy (by omega)
      have d1 := hc1 k hlt
      have d2 := hc2 k hlt
      obtain ⟨z, hz⟩ : ∃ z, z = q k := ⟨_, rfl⟩
      rw [← hz] at d1 d2
      clear hz hc1 hc2 hx hy
      have e1 : (k : Int) < (n : Int) := by omega
      have e2 : (z == z) = true := by simp
      go_wp2
      go_quiet (fail)
      go_wp2
      go_roundw
      case rel => exact ⟨k + 1, by omega, by go_num, _, rfl⟩
      case measure => simp [intOf]; omega
    · go_wp2
      go_ret
      exact ⟨rfl, _, rfl⟩
end Go.Proofs.Ybulkyyu.CLaw
