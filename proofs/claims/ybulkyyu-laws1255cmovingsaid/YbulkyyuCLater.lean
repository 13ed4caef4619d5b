/- math.Sqrt; later at +Inf; gridSlack at speed 0; Duration.Seconds. -/
import Derived.Test.YbulkyyuCPcg
namespace Go.Proofs.Ybulkyyu.CRand
open Go.RowKit
open Go.Proofs.Ybulkyyu.CF (fI fInf Mg)

theorem sqrt_shape (x : Nat) : ∃ A : Sem Value, Extern.MathSqrt.sqrt #[.float .f64 x] =
    (match FloatKind.f64.format.sqrt x with
    | some r => pure (.float .f64 r)
    | none => A) := ⟨_, rfl⟩
theorem run_sqrt (x r : Nat) (h : Ieee.double.sqrt x = some r) (w : World) : (callFunc 86 #[.float .f64 x]).run Yba.prog w = .ok (.value (.float .f64 r)) w := by
  rw [run_callFunc_extern Yba.func86 (by kernel_rfl) (by kernel_rfl) (by kernel_rfl) (e := Extern.MathSqrt.sqrt) (by kernel_rfl) _ w]
  have h' : FloatKind.f64.format.sqrt x = some r := h
  obtain ⟨A, hA⟩ := sqrt_shape x
  rw [hA, h']
  rfl

set_option maxRecDepth 100000 in
theorem sqrt_any (x r : Nat) (w : World) (h : Ieee.double.sqrt x = some r) : Calls Yba.prog 69 #[.float .f64 x] w fun e w' => e = .returned (.float .f64 r) ∧ w' = w := by
  have hd := run_sqrt x r h
  go_enter Yba.func69, Yba.ntmps69
  go_wp2
  go_ret
  exact ⟨rfl, rfl⟩

theorem run_ceil (w : World) : (callFunc 97 #[.float .f64 fInf]).run Yba.prog w = .ok (.value (.float .f64 fInf)) w := by
  rw [run_callFunc_extern Yba.func97 (by kernel_rfl) (by kernel_rfl) (by kernel_rfl) (e := Extern.MathFloor.toIntegral Yba.f97.name .up) (by kernel_rfl) _ w]
  have h' : FloatKind.f64.decode fInf = .infinity false := by decide
  obtain ⟨A, hA⟩ := CF.floor_shape Yba.f97.name .up fInf
  rw [hA, h']
  rfl

set_option maxRecDepth 100000 in
theorem ceil_any (w : World) : Calls Yba.prog 87 #[.float .f64 fInf] w fun e w' => e = .returned (.float .f64 fInf) ∧ w' = w := by
  have hd := run_ceil
  generalize fInf = F at *
  go_enter Yba.func87, Yba.ntmps87
  go_wp2
  go_ret
  exact ⟨rfl, rfl⟩

set_option maxRecDepth 100000 in
theorem later_any (w : World) : Calls Yba.prog 70 #[.int .i64 0, .float .f64 fInf] w fun e w' => e = .returned (.int .i64 9223372036854775807) ∧ w' = w := by
  have hm : ∀ t w, (binOp .mul t (.float .f64 fInf) (.float .f64 4741671816366391296)).run Yba.prog w = .ok (.float .f64 fInf) w := fun t w => run_float_arith w .mul t .f64 _ _ _ CF.inf_mul
  have ho : FloatKind.f64.format.order fInf (floatOfInt .f64 9223372036854775807) = some .gt := CF.inf_order
  have HC : Hid (∀ w : World, Calls Yba.prog 87 #[.float .f64 fInf] w fun e w' => e = .returned (.float .f64 fInf) ∧ w' = w) := ceil_any
  generalize fInf = F at *
  go_enter Yba.func70, Yba.ntmps70
  go_wp2_with (go_at_call 87; refine (HC.out _).mono ?_; rintro e w1 ⟨rfl, rfl⟩)
  go_ret
  exact ⟨rfl, rfl⟩

theorem sec_quo : floatBits .quo .f64 (floatOfInt .f64 0) 4741671816366391296 = some 0 := by decide
theorem sec_add : floatBits .add .f64 (floatOfInt .f64 3153600000) 0 = some (fI 3153600000) := CF.add_fI 3153600000 0 (by decide) (by decide) (by decide)

set_option maxRecDepth 100000 in
theorem seconds_any (w : World) : Calls Yba.prog 38 #[.int .i64 3153600000000000000] w fun e w' => e = .returned (.float .f64 (fI 3153600000)) ∧ w' = w := by
  have h1 : ∀ t w, (binOp .quo t (.float .f64 (floatOfInt .f64 0)) (.float .f64 4741671816366391296)).run Yba.prog w = .ok (.float .f64 0) w := fun t w => run_float_arith w .quo t .f64 _ _ _ sec_quo
  have h2 : ∀ t w, (binOp .add t (.float .f64 (floatOfInt .f64 3153600000)) (.float .f64 0)).run Yba.prog w = .ok (.float .f64 (fI 3153600000)) w := fun t w => run_float_arith w .add t .f64 _ _ _ sec_add
  go_enter Yba.func38, Yba.ntmps38
  go_wp2_with fail
  go_ret
  exact ⟨rfl, rfl⟩

theorem quo_nan : ∃ NB : World → Nat, ∀ t w, (binOp .quo t (.float .f64 0) (.float .f64 0)).run Yba.prog w = .ok (.float .f64 (NB w)) w.drew := by
  have h : FloatKind.f64.format.div 0 0 = none := by decide
  refine ⟨fun w => Question.cut (.nanBits .f64 0 0) (w.tape w.drawn (.nanBits .f64 0 0)), fun t w => ?_⟩
  simp [binOp, Op.floatArith, h, Question.forced]

theorem eight_mag : Mg 4620693217682128896 false 0 53 := by
  have : (4620693217682128896 : Nat) = fI 8 := by decide
  rw [this]
  exact CF.fI_mag 8 (by decide) (by decide)

set_option maxRecDepth 100000 in
theorem slack_any (r : Nat) (hr : r ≤ 500) (w : World) : Calls Yba.prog 37 #[.float .f64 (fI r), .float .f64 0] w fun e w' => e = .returned (.int .i64 3153600000000000000) ∧ ∃ t, w' = w.drewN t := by
  have ho := CF.order_fI r 0 (by omega) (by decide)
  rw [show fI 0 = 0 by decide] at ho
  have HS : Hid (∀ w : World, Calls Yba.prog 38 #[.int .i64 3153600000000000000] w fun e w' => e = .returned (.float .f64 (fI 3153600000)) ∧ w' = w) := seconds_any
  by_cases h : r = 0
  · subst h
    have ho' : FloatKind.f64.format.order 0 0 = some .eq := by decide
    have h1 : ∀ t w, (binOp .quo t (.float .f64 0) (.float .f64 4620693217682128896)).run Yba.prog w = .ok (.float .f64 0) w := fun t w => run_float_arith w .quo t .f64 _ _ _ (by decide)
    obtain ⟨NB, h2⟩ := quo_nan
    rw [show fI ((0 : Nat) : Int) = 0 by decide]
    clear ho
    go_enter Yba.func37, Yba.ntmps37
    go_wp2_with fail
    go_ret
    exact ⟨rfl, 1, rfl⟩
  · have hcmp : compare (r : Int) 0 = .gt := Int.compare_eq_gt.2 (by omega)
    rw [hcmp] at ho
    have ho' : FloatKind.f64.format.order (fI r) 0 = some .gt := ho
    obtain ⟨q, e1, m1⟩ := CF.quo_mag (CF.fI_mag r (by omega) (by omega)) eight_mag (by omega) (by omega)
    have e2 := CF.quo_zero m1
    have h1 : ∀ t w, (binOp .quo t (.float .f64 (fI r)) (.float .f64 4620693217682128896)).run Yba.prog w = .ok (.float .f64 q) w := fun t w => run_float_arith w .quo t .f64 _ _ _ e1
    have h2 : ∀ t w, (binOp .quo t (.float .f64 q) (.float .f64 0)).run Yba.prog w = .ok (.float .f64 fInf) w := fun t w => run_float_arith w .quo t .f64 _ _ _ e2
    have o2 : FloatKind.f64.format.order fInf (fI 3153600000) = some .gt := by
      obtain ⟨k, e⟩ := CF.fI_read 3153600000 (by decide)
      show (Ieee.double.read fInf).order (Ieee.double.read (fI 3153600000)) = _
      rw [e, show Ieee.double.read fInf = .infinity false by decide]
      rfl
    clear ho hcmp e1 e2 m1
    generalize fI (r : Int) = R at *
    generalize fI 3153600000 = S at *
    generalize fInf = F at *
    go_enter Yba.func37, Yba.ntmps37
    go_wp2_with (go_at_call 38; refine (HS.out _).mono ?_; rintro e w1 ⟨rfl, rfl⟩)
    go_ret
    exact ⟨rfl, 0, rfl⟩
end Go.Proofs.Ybulkyyu.CRand
