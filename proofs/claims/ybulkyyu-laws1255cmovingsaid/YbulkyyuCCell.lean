/- The float operations of the road as run laws; math.Floor; the closure of cellOf. -/
import Derived.Test.YbulkyyuCQuo
import Derived.Test.YbulkyyuCRow
import Derived.Laws.Externs
import Derived.KernelRfl
namespace Go.Proofs.Ybulkyyu.CF
open Ieee Go.RowKit

theorem toInt_fI (n : Int) (h : n.natAbs < 2 ^ 53) : (double.read (fI n)).toInt .zero = some n := by
  obtain ⟨k, e⟩ := fI_read n h
  rw [e]
  unfold Datum.toInt Datum.integral
  have hc : Toward.zero.cut (decide (n < 0)) ((n.natAbs * 2 ^ k) <<< (-(k : Int)).toNat) (- -(k : Int)).toNat = n.natAbs := by
    rw [show (-(k : Int)).toNat = 0 by omega, show (- -(k : Int)).toNat = k by omega, Nat.shiftLeft_zero]
    by_cases h0 : n.natAbs = 0
    · rw [h0, Nat.zero_mul]; unfold Toward.cut; simp
    · exact cut_exact _ _ _ _ (by omega)
  simp only [hc]
  have := signed_whole (decide (n < 0)) n 0 0 (fun _ => rfl)
  rw [Nat.pow_zero, Nat.mul_one, Nat.add_zero, Int.pow_zero, Int.mul_one] at this
  rw [this]

theorem toIntVal_fI (n : Int) (h : n.natAbs < 2 ^ 53) : floatToIntVal .f64 (fI n) .i64 = some n := by
  unfold floatToIntVal
  rw [show (FloatKind.f64.decode (fI n)).toInt .zero = some n from toInt_fI n h]
  show (if IntKind.i64.min ≤ n ∧ n ≤ IntKind.i64.max then some n else none) = some n
  rw [if_pos]
  have h1 : IntKind.i64.min = -9223372036854775808 := by decide
  have h2 : IntKind.i64.max = 9223372036854775807 := by decide
  rw [h1, h2]
  omega

theorem run_cmp (op : BinOp) (t : TypeId) (x y : Nat) (b : Bool) (w : World) (hop : op = .leq ∧ b = (double.order x y == some .lt || double.order x y == some .eq) ∨ op = .eql ∧ b = (double.order x y == some .eq) ∨ op = .geq ∧ b = (double.order x y == some .gt || double.order x y == some .eq) ∨ op = .gtr ∧ b = (double.order x y == some .gt)) :
    (binOp op t (.float .f64 x) (.float .f64 y)).run Yba.prog w = .ok (.bool b) w := by
  rcases hop with ⟨rfl, rfl⟩ | ⟨rfl, rfl⟩ | ⟨rfl, rfl⟩ | ⟨rfl, rfl⟩ <;> simp [binOp, Op.floatCmp] <;> rfl

theorem run_min (ts : Array TypeId) (t : TypeId) (x y : Nat) (w : World) (h : double.order x y = some .gt) : (Builtin.min_ ts t #[.float .f64 x, .float .f64 y]).run Yba.prog w = .ok (.float .f64 y) w := by
  have h' : FloatKind.f64.format.order x y = some .gt := h
  simp [Builtin.min_, Builtin.min2, h']
theorem run_max (ts : Array TypeId) (t : TypeId) (x y : Nat) (w : World) (h : double.order x y = some .lt) : (Builtin.max_ ts t #[.float .f64 x, .float .f64 y]).run Yba.prog w = .ok (.float .f64 y) w := by
  have h' : FloatKind.f64.format.order x y = some .lt := h
  simp [Builtin.max_, Builtin.max2, h']

theorem floor_shape (name : String) (way : Toward) (x : Nat) : ∃ A : Bool → Nat → Sem Value, Extern.MathFloor.toIntegral name way #[.float .f64 x] =
    (match FloatKind.f64.decode x with
    | .nan s t => A s t
    | d => pure (.float .f64 (FloatKind.f64.encode (d.integral way)))) := ⟨_, rfl⟩

/-- What math.archFloor answers. -/
theorem run_floor (x m : Nat) (s : Bool) (p : Int) (h : double.read x = .number s m p) (w : World) :
    (callFunc 71 #[.float .f64 x]).run Yba.prog w = .ok (.value (.float .f64 (double.write ((Datum.number s m p).integral .down)))) w := by
  rw [run_callFunc_extern Yba.func71 (by kernel_rfl) (by kernel_rfl) (by kernel_rfl) (e := Extern.MathFloor.toIntegral Yba.f71.name .down) (by kernel_rfl) _ w]
  have h' : FloatKind.f64.decode x = .number s m p := h
  obtain ⟨A, hA⟩ := floor_shape Yba.f71.name .down x
  rw [hA, h']
  rfl

/-- The whole number v over the float64 C, cut downwards, is the whole number q. -/
def Idx (C v q : Nat) : Prop := ∃ r m p, floatBits .quo .f64 (fI v) C = some r ∧ double.read r = .number false m p ∧ Toward.down.cut false (m <<< p.toNat) (-p).toNat = q

theorem idx_whole (v c : Nat) (hv : 0 < v) (hv2 : v ≤ 1000) (hc : 0 < c) (hc2 : c ≤ 1000) : Idx (fI c) v (v / c) := floor_quo v c hv hv2 hc hc2

/-- The bits of +Inf. -/
def fInf : Nat := 9218868437227405312
theorem idx_inf (v : Nat) (hv2 : v ≤ 1000) : Idx fInf v 0 := by
  obtain ⟨k, e1⟩ := fI_read v (by omega)
  refine ⟨0, 0, -1074, ?_, by decide, by decide⟩
  show ((double.read (fI v)).quotient (double.fractionBits + 2) (double.read fInf)).map double.write = _
  rw [e1, show double.read fInf = .infinity false by decide, decide_eq_false (by omega)]
  rfl

theorem big : (4841369599423283200 : Nat) = fI 4503599627370496 := by decide
theorem low : (14064741636278059008 : Nat) = fI (-4503599627370496) := by decide

set_option maxRecDepth 100000 in
theorem floor_any (r m q : Nat) (p : Int) (w : World) (h : double.read r = .number false m p) (hq : Toward.down.cut false (m <<< p.toNat) (-p).toNat = q) :
    Calls Yba.prog 64 #[.float .f64 r] w fun e w' => e = .returned (.float .f64 (fI q)) ∧ w' = w := by
  have hd := run_floor r m false p h
  have e1 : double.write ((Datum.number false m p).integral .down) = fI q := by
    show double.write (.number false (Toward.down.cut false (m <<< p.toNat) (-p).toNat) 0) = _
    rw [hq]
    show _ = double.write (.number (decide ((q : Int) < 0)) (q : Int).natAbs 0)
    rw [decide_eq_false (by omega), Int.natAbs_natCast]
  rw [e1] at hd
  go_enter Yba.func64, Yba.ntmps64
  go_wp2
  go_ret
  exact ⟨rfl, rfl⟩

set_option maxRecDepth 100000 in
theorem index_any (C v q : Nat) (gp : Addr) (b : Nat) (w : World) (hi : Idx C v q) (hq : q ≤ 1000) (hb : w.cell? ⟨b, 0, none⟩ = some (.pointer (some gp))) (hc : w.cell? gp = some (.float .f64 C)) :
    Calls Yba.prog 63 #[.float .f64 (fI v), .pointer (some ⟨b, 0, none⟩)] w fun e w' => e = .returned (.int .i64 q) ∧ w' = w := by
  obtain ⟨r, m, p, h1, h2, h3⟩ := hi
  have hop : ∀ t w, (binOp .quo t (.float .f64 (fI v)) (.float .f64 C)).run Yba.prog w = .ok (.float .f64 r) w := fun t w => run_float_arith w .quo t .f64 _ _ r h1
  have o1 : double.order 4841369599423283200 (fI q) = some .gt := by rw [big, order_fI _ _ (by decide) (by omega), Int.compare_eq_gt.2 (by omega)]
  have o2 : double.order 14064741636278059008 (fI q) = some .lt := by rw [low, order_fI _ _ (by decide) (by omega), Int.compare_eq_lt.2 (by omega)]
  have hmin := fun ts t w => run_min ts t _ _ w o1
  have hmax := fun ts t w => run_max ts t _ _ w o2
  have hcv : ∀ w, (convert 81 2 (.float .f64 (fI q))).run Yba.prog w = .ok (.int .i64 q) w := fun w => run_convert_float_int w 81 2 .f64 .i64 _ q (by rw [Yba.underlying81]; rfl) Yba.underlying2 (toIntVal_fI q (by omega))
  go_enter Yba.func63, Yba.ntmps63
  go_wp2_with (go_at_call 64; refine (floor_any r m q p _ h2 h3).mono ?_; rintro e w1 ⟨rfl, rfl⟩)
  go_ret
  exact ⟨rfl, rfl⟩
end Go.Proofs.Ybulkyyu.CF
