/- Plain: the near of a wider reach, sifted. -/
import Derived.Test.YbulkyyuCLaw
namespace Go.Proofs.Ybulkyyu.CLaw

theorem sel_wide {X Y : Nat → Int} {r : Nat} {i j : Nat} (h : sel X Y r i j = true) : sel X Y (r + 1 : Nat) i j = true := by
  unfold sel at h ⊢
  simp only [Bool.and_eq_true, decide_eq_true_eq] at h ⊢
  have : (r : Int) * r ≤ ((r + 1 : Nat) : Int) * ((r + 1 : Nat) : Int) := Int.mul_le_mul (by omega) (by omega) (by omega) (by omega)
  exact ⟨h.1, by omega⟩
theorem ms_sift (X Y : Nat → Int) (r i n : Nat) : (ms X Y (r + 1 : Nat) i n).filter (fun j => sel X Y r i j) = ms X Y r i n := by
  unfold ms
  rw [List.filter_filter]
  refine List.filter_congr (fun j _ => ?_)
  cases h : sel X Y r i j
  · simp
  · have := sel_wide h
    simp only [this, Bool.and_self]
end Go.Proofs.Ybulkyyu.CLaw
