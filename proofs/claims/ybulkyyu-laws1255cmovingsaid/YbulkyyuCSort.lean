/- slices.Sort at int32. -/
import Derived.Test.YbulkyyuCPdq
namespace Go.Proofs.Ybulkyyu.CSort
open Go.RowKit Go.Sort

set_option maxRecDepth 100000 in
theorem sort_any (g cap : Nat) (d : Array Int) (w : World) (hd : d.size ≤ 4096) (hR : Row w g cap d) :
    Calls Yba.prog 57 #[.slice (some ⟨g, 0, none⟩) d.size cap] w fun e w' =>
      ∃ d' : Array Int, e = .returned (.tuple #[]) ∧ Row w' g cap d' ∧ (PermIn 0 d.size d d' ∧ SortedIn ltInt 0 d.size d') ∧ w.grownBy w' (some g) := by
  have k1 : (d.size : Int) ≤ 4096 := by omega
  go_enter Yba.func57, Yba.ntmps57
  go_wp2_with fail
  refine (Yba.bits_Len d.size w (by omega) (by omega)).mono ?_
  rintro e w' ⟨rfl, rfl⟩
  go_wp2_with fail
  refine (pdq_any (d.size + 1) g cap 0 d.size _ d w' (by omega) (by omega) (by omega) hd (.inl rfl) hR).mono ?_
  rintro e w1 ⟨d', rfl, h⟩
  go_wp2_with fail
  go_end0
  exact ⟨d', rfl, h⟩

set_option maxRecDepth 100000 in
theorem insertion_nil (w : World) : Calls Yba.prog 73 #[.slice none 0 0, .int .i64 0, .int .i64 0] w fun e w' => e = .returned (.tuple #[]) ∧ w' = w := by
  go_enter Yba.func73, Yba.ntmps73
  go_wp2_with fail
  go_loopw [6] (fun si wr => si = .int .i64 1 ∧ wr = w) (fun _ _ => 0)
  case atStart => exact ⟨rfl, rfl⟩
  case round =>
    obtain ⟨rfl, rfl⟩ := hrel
    go_wp2_with fail
    go_end0
    exact ⟨rfl, rfl⟩

set_option maxRecDepth 100000 in
theorem pdq_nil (lim : Int) (w : World) : Calls Yba.prog 65 #[.slice none 0 0, .int .i64 0, .int .i64 0, .int .i64 lim] w fun e w' => e = .returned (.tuple #[]) ∧ w' = w := by
  go_enter Yba.func65, Yba.ntmps65
  go_wp2_with fail
  go_loopw [1, 2, 3, 8, 9] (fun s1 s2 s3 s8 s9 wr => s1 = .int .i64 0 ∧ s2 = .int .i64 0 ∧ s3 = .int .i64 lim ∧ s8 = .bool true ∧ s9 = .bool true ∧ wr = w) (fun _ _ _ _ _ _ => 0)
  case atStart => exact ⟨rfl, rfl, rfl, rfl, rfl, rfl⟩
  case round =>
    obtain ⟨rfl, rfl, rfl, rfl, rfl, rfl⟩ := hrel
    go_wp2_with fail
    refine (insertion_nil _).mono ?_
    rintro e w' ⟨rfl, rfl⟩
    go_wp2_with fail
    exact bodyPost_ret (results_none rfl _ _ _) rfl ⟨rfl, rfl⟩

set_option maxRecDepth 100000 in
theorem sort_nil (w : World) : Calls Yba.prog 57 #[.slice none 0 0] w fun e w' => e = .returned (.tuple #[]) ∧ w' = w := by
  go_enter Yba.func57, Yba.ntmps57
  go_wp2_with fail
  refine (Yba.bits_Len 0 w (by omega) (by omega)).mono ?_
  rintro e w' ⟨rfl, rfl⟩
  go_wp2_with fail
  refine (pdq_nil _ _).mono ?_
  rintro e w1 ⟨rfl, rfl⟩
  go_wp2_with fail
  go_end0
  exact ⟨rfl, rfl⟩
end Go.Proofs.Ybulkyyu.CSort
