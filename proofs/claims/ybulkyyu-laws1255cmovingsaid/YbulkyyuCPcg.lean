/- math/rand/v2's PCG: whatever it draws, it is a uint64; Rand.Float64: k / 2^53. -/
import Derived.Shelf.Bits.Mul64
import Derived.Test.YbulkyyuCBits
import Derived.Test.YbulkyyuCDy
namespace Go.Proofs
open Go.Shelf
shelf_lay Lays.n264 Nm 264 at Yba as Yba.lays264
theorem Yba.bits_Mul64 (x y : Nat) (hx : x < 18446744073709551616) (hy : y < 18446744073709551616) (w : World) :
    Calls Yba.prog 133 #[.int .u64 x, .int .u64 y] w fun e w' => e = .returned (.tuple #[.int .u64 ((x * y / 18446744073709551616 : Nat) : Int), .int .u64 ((x * y % 18446744073709551616 : Nat) : Int)]) ∧ w' = w := Any.bits_Mul64 Yba.lays264 x y hx hy w
end Go.Proofs
namespace Go.Proofs.Ybulkyyu.CRand
open Go.RowKit
open Go.Proofs.Ybulkyyu.CSort (u64_nat bits_u64 grown_setCell grown_refl grown_drewN grown_trans)

theorem run_add64 (x y c : Int) (hc : c = 0 ∨ c = 1) (w : World) : (callFunc 134 #[.int .u64 x, .int .u64 y, .int .u64 c]).run Yba.prog w = .ok (.value (.tuple #[.int .u64 (((x.toNat + y.toNat + c.toNat) % 18446744073709551616 : Nat) : Int), .int .u64 (((x.toNat + y.toNat + c.toNat) / 18446744073709551616 : Nat) : Int)])) w := by
  rw [run_callFunc_extern Yba.func134 (by kernel_rfl) (by kernel_rfl) (by kernel_rfl) (e := (Extern.MathBitsCarry.rows.head (by decide)).2) (by kernel_rfl) _ w]
  rcases hc with rfl | rfl <;> rfl

theorem add64_one (x y c : Int) (hc : c = 0 ∨ c = 1) (hx : x.toNat < 18446744073709551616) (hy : y.toNat < 18446744073709551615) : ∃ A B : Nat, A < 18446744073709551616 ∧ ((B : Int) = 0 ∨ (B : Int) = 1) ∧ ∀ w, (callFunc 134 #[.int .u64 x, .int .u64 y, .int .u64 c]).run Yba.prog w = .ok (.value (.tuple #[.int .u64 A, .int .u64 B])) w :=
  ⟨_, _, by omega, by omega, fun w => run_add64 x y c hc w⟩
theorem add64_all (y c : Int) (hc : c = 0 ∨ c = 1) : ∃ A B : Int → Nat, (∀ x, A x < 18446744073709551616) ∧ ∀ x w, (callFunc 134 #[.int .u64 x, .int .u64 y, .int .u64 c]).run Yba.prog w = .ok (.value (.tuple #[.int .u64 (A x), .int .u64 (B x)])) w :=
  ⟨fun x => (x.toNat + y.toNat + c.toNat) % 18446744073709551616, fun x => (x.toNat + y.toNat + c.toNat) / 18446744073709551616, fun x => by show _ % _ < _; omega, fun x w => run_add64 x y c hc w⟩
theorem mul64_ex (x : Nat) (y : Nat) (hx : x < 18446744073709551616) (hy : y < 18446744073709551616) : ∃ H L : Nat, L < 18446744073709551616 ∧ ∀ w : World, Calls Yba.prog 133 #[.int .u64 x, .int .u64 y] w fun e w' => e = .returned (.tuple #[.int .u64 H, .int .u64 L]) ∧ w' = w :=
  ⟨_, _, Nat.mod_lt _ (by decide), fun w => Yba.bits_Mul64 x y hx hy w⟩
theorem lit1 : (1442695040888963407 : Int).toNat < 18446744073709551615 := by decide
theorem lit2 : ((4865540595714422341 : Nat) : Int) = 4865540595714422341 := by decide

set_option maxRecDepth 100000 in
theorem next_any (h : Nat) (hi lo : Nat) (w : World) (hl : lo < 18446744073709551616) (hn : w.heap[h]? = some (.cells #[.int .u64 hi, .int .u64 lo] 139 (0, 0))) :
    Calls Yba.prog 132 #[.pointer (some ⟨h, 0, none⟩)] w fun e w' => ∃ a b : Nat, e = .returned (.tuple #[.int .u64 a, .int .u64 b]) ∧ a < 18446744073709551616 ∧ b < 18446744073709551616 ∧ w'.heap[h]? = some (.cells #[.int .u64 a, .int .u64 b] 139 (0, 0)) ∧ w.grownBy w' (some h) := by
  have c0 := (cell_of_row _ h 0 _ _ _ hn).trans (show _ = some (Value.int .u64 hi) from rfl)
  have c1 := (cell_of_row _ h 1 _ _ _ hn).trans (show _ = some (Value.int .u64 lo) from rfl)
  have f0 : w.frozen? ⟨h, 0, none⟩ = false := frozen_of_row w h 0 _ _ hn
  have f1 : w.frozen? ⟨h, 1, none⟩ = false := frozen_of_row w h 1 _ _ hn
  obtain ⟨H, L, hL, hM⟩ := mul64_ex lo 4865540595714422341 hl (by decide)
  rw [lit2] at hM
  have HM : Hid (∀ w : World, Calls Yba.prog 133 #[.int .u64 lo, .int .u64 4865540595714422341] w fun e w' => e = .returned (.tuple #[.int .u64 H, .int .u64 L]) ∧ w' = w) := hM
  obtain ⟨A, B, hA, hB, a1⟩ := add64_one L 1442695040888963407 0 (.inl rfl) (by rw [Int.toNat_natCast]; exact hL) lit1
  obtain ⟨A2, B2, hA2, a2⟩ := add64_all 6364136223846793005 B hB
  have hset : ∀ a b : Nat, ((w.setCell ⟨h, 1, none⟩ (.int .u64 b)).setCell ⟨h, 0, none⟩ (.int .u64 a)).heap[h]? = some (.cells #[.int .u64 a, .int .u64 b] 139 (0, 0)) := fun a b => heap_setCell_same _ h 0 _ 139 _ (heap_setCell_same w h 1 _ 139 _ hn)
  have HSET : Hid (∀ a b : Nat, ((w.setCell ⟨h, 1, none⟩ (.int .u64 b)).setCell ⟨h, 0, none⟩ (.int .u64 a)).heap[h]? = some (.cells #[.int .u64 a, .int .u64 b] 139 (0, 0))) := hset
  have HA2 : Hid (∀ x, A2 x < 18446744073709551616) := hA2
  clear hM hB hL hA2 hset hn
  go_enter Yba.func132, Yba.ntmps132
  go_wp2_with (go_at_call 133; refine (HM.out _).mono ?_; rintro e w1 ⟨rfl, rfl⟩)
  go_region
  go_wp2_with fail
  go_ret2
  exact ⟨_, _, rfl, HA2.out _, hA, HSET.out _ _, grown_drewN (grown_setCell (grown_setCell (grown_refl _ _) _ _) _ _) 1⟩

set_option maxRecDepth 100000 in
theorem uint64_any (h : Nat) (hi lo : Nat) (w : World) (hl : lo < 18446744073709551616) (hn : w.heap[h]? = some (.cells #[.int .u64 hi, .int .u64 lo] 139 (0, 0))) :
    Calls Yba.prog 131 #[.pointer (some ⟨h, 0, none⟩)] w fun e w' => ∃ a b u : Nat, e = .returned (.int .u64 u) ∧ u < 18446744073709551616 ∧ b < 18446744073709551616 ∧ w'.heap[h]? = some (.cells #[.int .u64 a, .int .u64 b] 139 (0, 0)) ∧ w.grownBy w' (some h) := by
  go_enter Yba.func131, Yba.ntmps131
  go_wp2_with (go_at_call 132; refine (next_any h hi lo w hl hn).mono ?_; rintro e w1 ⟨a, b, rfl, ha, hb, hn1, hg⟩)
  go_ret
  exact ⟨a, b, _, congrArg (fun z => Ending.returned (Value.int .u64 z)) (u64_nat _).choose_spec.1, (u64_nat _).choose_spec.2, hb, hn1, hg⟩

theorem uint64_method (v : Value) (w : World) : (method 299 122 v "Uint64").run Yba.prog w = .ok (131, v) w := by kernel_rfl

set_option maxRecDepth 100000 in
theorem rand64_any (g h : Nat) (hi lo : Nat) (w : World) (hl : lo < 18446744073709551616) (hn : w.heap[h]? = some (.cells #[.int .u64 hi, .int .u64 lo] 139 (0, 0))) (hr : w.heap[g]? = some (.cells #[.iface 122 (.pointer (some ⟨h, 0, none⟩))] 137 (0, 0))) :
    Calls Yba.prog 85 #[.pointer (some ⟨g, 0, none⟩)] w fun e w' => ∃ a b u : Nat, e = .returned (.int .u64 u) ∧ u < 18446744073709551616 ∧ b < 18446744073709551616 ∧ w'.heap[h]? = some (.cells #[.int .u64 a, .int .u64 b] 139 (0, 0)) ∧ w.grownBy w' (some h) := by
  have c0 := (cell_of_row _ g 0 _ _ _ hr).trans (show _ = some (Value.iface 122 (.pointer (some ⟨h, 0, none⟩))) from rfl)
  have hm : ∀ v w, (method 299 122 v "Uint64").run Yba.prog w = .ok (131, v) w := uint64_method
  go_enter Yba.func85, Yba.ntmps85
  go_wp2_with (go_at_call 131; refine (uint64_any h hi lo w hl hn).mono ?_; rintro e w1 ⟨a, b, u, rfl, hu, hb, hn1, hg⟩)
  go_ret
  exact ⟨a, b, u, rfl, hu, hb, hn1, hg⟩

set_option maxRecDepth 100000 in
theorem float_any (g h : Nat) (hi lo : Nat) (w : World) (hl : lo < 18446744073709551616) (hn : w.heap[h]? = some (.cells #[.int .u64 hi, .int .u64 lo] 139 (0, 0))) (hr : w.heap[g]? = some (.cells #[.iface 122 (.pointer (some ⟨h, 0, none⟩))] 137 (0, 0))) :
    Calls Yba.prog 68 #[.pointer (some ⟨g, 0, none⟩)] w fun e w' => ∃ a b k : Nat, e = .returned (.float .f64 (CF.fD k (-53))) ∧ k < 2 ^ 53 ∧ b < 18446744073709551616 ∧ w'.heap[h]? = some (.cells #[.int .u64 a, .int .u64 b] 139 (0, 0)) ∧ w.grownBy w' (some h) := by
  have hq : ∀ (u : Nat), ∃ k : Nat, k < 2 ^ 53 ∧ ∀ t w, (binOp .quo t (.float .f64 (floatOfInt .f64 (IntKind.u64.wrap ((u : Int) * 2048) / 2048))) (.float .f64 4845873199050653696)).run Yba.prog w = .ok (.float .f64 (CF.fD k (-53))) w := fun u => by
    obtain ⟨z, hz, hz2⟩ := u64_nat ((u : Int) * 2048)
    refine ⟨z / 2048, by omega, fun t w => ?_⟩
    have := run_float_arith (P := Yba.prog) w .quo t .f64 _ _ _ (CF.rand_quo (z / 2048) (by omega))
    rw [hz]
    exact this
  have HQ : Hid _ := hq
  clear hq
  go_enter Yba.func68, Yba.ntmps68
  go_wp2_with (go_at_call 85; refine (rand64_any g h hi lo w hl hn hr).mono ?_; rintro e w1 ⟨a, b, u, rfl, hu, hb, hn1, hg⟩; obtain ⟨k, hk, hkq⟩ := HQ.out u)
  go_ret
  exact ⟨a, b, k, rfl, hk, hb, hn1, hg⟩
end Go.Proofs.Ybulkyyu.CRand
