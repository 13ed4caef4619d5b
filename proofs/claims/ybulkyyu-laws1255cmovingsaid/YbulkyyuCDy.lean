/- The float64 numbers of a walk at speed 0: a drawn place below 1, its way to a start at 2 or more, the distance. No Go here. -/
import Derived.Test.YbulkyyuCMag
namespace Go.Proofs.Ybulkyyu.CF
open Ieee

theorem read_zero (s : Bool) : double.read (double.word s 0) = .number s 0 (-1074) := by cases s <;> decide
theorem read_zero' : double.read 0 = .number false 0 (-1074) := by decide
theorem read_one : double.read 4607182418800017408 = .number false (2 ^ 52) (-52) := by decide
theorem read_2p53 : double.read 4845873199050653696 = .number false (2 ^ 52) 1 := by decide

/-- k / 2^53. -/
theorem rand_quo (k : Nat) (hk : k < 2 ^ 53) : floatBits .quo .f64 (fI k) 4845873199050653696 = some (fD k (-53)) := by
  obtain ⟨a, e⟩ := fI_read k (by omega)
  show ((double.read (fI k)).quotient (double.fractionBits + 2) (double.read 4845873199050653696)).map double.write = _
  rw [e, read_2p53, decide_eq_false (by omega), Int.natAbs_natCast]
  unfold Datum.quotient
  simp only [fb]
  rw [if_neg (by decide)]
  by_cases h0 : k = 0
  · subst h0
    simp only [Nat.zero_mul, Nat.zero_shiftLeft, Nat.zero_div, Nat.zero_mod]
    simp [Format.write, Format.nearest, fD, rungZ]
  · obtain ⟨M, hM⟩ : ∃ M, M = 52 + 2 + (2 ^ 52).log2 - (k * 2 ^ a).log2 := ⟨_, rfl⟩
    have hl52 : (2 ^ 52).log2 = 52 := by decide
    rw [← hM]
    rw [hl52, log2_mul k a (by omega)] at hM
    have hkl : k.log2 < 53 := (Nat.log2_lt h0).2 hk
    have hA : 52 ≤ a + M := by omega
    have e1 : (k * 2 ^ a) <<< M = k * 2 ^ (a + M - 52) * 2 ^ 52 := by
      rw [Nat.shiftLeft_eq, Nat.mul_assoc, ← Nat.pow_add, Nat.mul_assoc, ← Nat.pow_add, show a + M - 52 + 52 = a + M by omega]
    rw [e1, Nat.mul_div_cancel _ (by decide), Nat.mul_mod_left]
    have e2 : 2 * (k * 2 ^ (a + M - 52)) + ((0 : Nat) != 0).toNat = k * 2 ^ (a + M - 51) := by
      rw [show a + M - 51 = (a + M - 52) + 1 by omega, Nat.pow_succ, ← Nat.mul_assoc k, Nat.mul_comm _ 2]
      rfl
    rw [e2, Option.map_some, show -(a : Int) - 1 - (M : Int) - 1 = -53 - ((a + M - 51 : Nat) : Int) by omega]
    exact congrArg some (nearest_dy false k (a + M - 51) (-53) hk (by omega) (by omega))

theorem one_mul_dy (k : Nat) (hk : k < 2 ^ 53) : floatBits .mul .f64 4607182418800017408 (fD k (-53)) = some (fD k (-53)) := by
  obtain ⟨c, e⟩ := fD_read k (-53) hk (by omega) (by omega)
  show ((double.read 4607182418800017408).product (double.read (fD k (-53)))).map double.write = _
  rw [e, read_one]
  unfold Datum.product
  rw [Option.map_some, show 2 ^ 52 * (k * 2 ^ c) = k * 2 ^ (52 + c) by rw [Nat.pow_add, Nat.mul_left_comm], show (-52 : Int) + (-53 - (c : Int)) = -53 - ((52 + c : Nat) : Int) by omega]
  exact congrArg some (nearest_dy _ k (52 + c) (-53) hk (by omega) (by omega))

theorem write_nil (s : Bool) (p : Int) : double.write (.number s 0 p) = double.word s 0 := by simp [Format.write, Format.nearest]

theorem zero_mul_num {y : Nat} {t : Bool} {n : Nat} {j : Int} (h : double.read y = .number t n j) : floatBits .mul .f64 0 y = some (double.word t 0) := by
  show ((double.read 0).product (double.read y)).map double.write = _
  rw [h, read_zero']
  unfold Datum.product
  rw [Option.map_some, Nat.zero_mul, write_nil]
  simp
theorem mul_zero_num {x : Nat} {s : Bool} {m : Nat} {i : Int} (h : double.read x = .number s m i) : floatBits .mul .f64 x 0 = some (double.word s 0) := by
  show ((double.read x).product (double.read 0)).map double.write = _
  rw [h, read_zero']
  unfold Datum.product
  rw [Option.map_some, Nat.mul_zero, write_nil]
  simp
theorem zero_mul_dy (k : Nat) (hk : k < 2 ^ 53) : floatBits .mul .f64 0 (fD k (-53)) = some 0 := by
  obtain ⟨c, e⟩ := fD_read k (-53) hk (by omega) (by omega)
  exact zero_mul_num e
theorem zero_mul_mag {y : Nat} {a b : Int} (h : Mg y false a b) : floatBits .mul .f64 0 y = some 0 := by
  obtain ⟨m, p, e, _⟩ := h
  exact zero_mul_num e
theorem mul_zero_mag {x : Nat} {s : Bool} {a b : Int} (h : Mg x s a b) : floatBits .mul .f64 x 0 = some (double.word s 0) := by
  obtain ⟨m, p, e, _⟩ := h
  exact mul_zero_num e
theorem zero_sub_zero : floatBits .sub .f64 0 0 = some 0 := by decide
theorem zero_add_zero : floatBits .add .f64 0 0 = some 0 := by decide

/-- A whole number and a zero of either sign. -/
theorem add_nil (n : Int) (s : Bool) (h0 : 0 < n) (h : n.natAbs < 2 ^ 53) : floatBits .add .f64 (fI n) (double.word s 0) = some (fI n) := by
  obtain ⟨k, e1⟩ := fI_read n h
  show ((double.read (fI n)).sum (double.read (double.word s 0))).map double.write = _
  rw [e1, read_zero]
  obtain ⟨l, hl⟩ : ∃ l : Nat, -(l : Int) = -1074 := ⟨1074, rfl⟩
  rw [← hl]
  have := sum_fI n 0 (decide (n < 0)) s k l (fun _ => rfl) (fun e => absurd rfl e) (fun e => by omega) (by rw [Int.add_zero]; exact h)
  rw [Int.natAbs_zero, Nat.zero_mul, Int.add_zero] at this
  exact this

theorem read_lt {x : Nat} {s : Bool} {m : Nat} {p : Int} (h : double.read x = .number s m p) : m < 2 ^ 53 := by
  unfold Format.read at h
  simp only [bi, ir, lp] at h
  split at h
  · injection h with h1 h2 h3; omega
  · split at h
    · injection h with h1 h2 h3; omega
    · split at h <;> cases h

theorem fI_mag (n : Int) (h0 : 0 < n) (h : n.natAbs < 2 ^ 53) : Mg (fI n) false 0 53 := by
  obtain ⟨k, e⟩ := fI_read n h
  rw [decide_eq_false (by omega)] at e
  refine ⟨_, _, e, ?_, read_lt e, ?_, ?_⟩
  · exact Nat.mul_ne_zero (by omega) (Nat.ne_of_gt (Nat.two_pow_pos _))
  · rw [log2_mul _ _ (by omega)]; omega
  · have := (Nat.log2_lt (n := n.natAbs) (by omega)).2 h
    rw [log2_mul _ _ (by omega)]; omega

/-- The step from a start at n to a drawn place k / 2^53. -/
theorem sub_step (k : Nat) (n : Int) (hk : k < 2 ^ 53) (h2 : 2 ≤ n) (h5 : n ≤ 500) : ∃ r, floatBits .sub .f64 (fD k (-53)) (fI n) = some r ∧ Mg r true 0 9 := by
  obtain ⟨c, e1⟩ := fD_read k (-53) hk (by omega) (by omega)
  obtain ⟨a, e2⟩ := fI_read n (by omega)
  obtain ⟨N, rfl⟩ : ∃ N : Nat, n = N := ⟨n.toNat, by omega⟩
  rw [decide_eq_false (by omega), Int.natAbs_natCast] at e2
  obtain ⟨B, hB⟩ : ∃ B : Nat, B = max (53 + c) a := ⟨_, rfl⟩
  have hb : min (-53 - (c : Int)) (-(a : Int)) = -(B : Int) := by omega
  obtain ⟨q, hq⟩ : ∃ q, q = N * 2 ^ 53 - k := ⟨_, rfl⟩
  have q1 : 2 ^ 53 ≤ q := by omega
  have q2 : q < 2 ^ 62 := by omega
  have hpos : 0 < 2 ^ (B - 53) := Nat.two_pow_pos _
  have s1 : signed false (k * 2 ^ c) (-53 - (c : Int) - -(B : Int)).toNat = ((k * 2 ^ (B - 53) : Nat) : Int) := by
    rw [signed_false, Nat.mul_assoc, ← Nat.pow_add, show c + (-53 - (c : Int) - -(B : Int)).toNat = B - 53 by omega]
  have s2 : signed (!false) (N * 2 ^ a) (-(a : Int) - -(B : Int)).toNat = -((N * 2 ^ 53 * 2 ^ (B - 53) : Nat) : Int) := by
    have := signed_false (N * 2 ^ a) (-(a : Int) - -(B : Int)).toNat
    rw [Nat.mul_assoc, ← Nat.pow_add, show a + (-(a : Int) - -(B : Int)).toNat = B by omega] at this
    have e : signed (!false) (N * 2 ^ a) (-(a : Int) - -(B : Int)).toNat = - signed false (N * 2 ^ a) (-(a : Int) - -(B : Int)).toNat := rfl
    rw [e, this, Nat.mul_assoc, ← Nat.pow_add, show 53 + (B - 53) = B by omega]
  have ht : ((k * 2 ^ (B - 53) : Nat) : Int) + -((N * 2 ^ 53 * 2 ^ (B - 53) : Nat) : Int) = -((q * 2 ^ (B - 53) : Nat) : Int) := by
    have : q * 2 ^ (B - 53) = N * 2 ^ 53 * 2 ^ (B - 53) - k * 2 ^ (B - 53) := by rw [hq, Nat.sub_mul]
    have h3 : k * 2 ^ (B - 53) ≤ N * 2 ^ 53 * 2 ^ (B - 53) := Nat.mul_le_mul_right _ (by omega)
    omega
  have hq0 : 0 < q * 2 ^ (B - 53) := Nat.mul_pos (by omega) hpos
  refine ⟨double.write (.number true (q * 2 ^ (B - 53)) (-(B : Int))), ?_, ?_⟩
  · show ((double.read (fD k (-53))).sum (double.read (fI N)).opposite).map double.write = _
    rw [e1, e2]
    unfold Datum.sum Datum.opposite
    simp only [hb, s1, s2, ht]
    rw [if_neg (by omega), Int.natAbs_neg, Int.natAbs_natCast, decide_eq_true (by omega)]
    rfl
  · have hl : q.log2 < 62 := (Nat.log2_lt (by omega)).2 q2
    have hl2 : 53 ≤ q.log2 := (Nat.le_log2 (by omega)).2 q1
    have e := log2_mul q (B - 53) (by omega)
    exact (write_mag true _ (-(B : Int)) 0 8 (by omega) (by omega) (by omega) (by omega) (by omega))

theorem order_step (k : Nat) (n : Int) (hk : k < 2 ^ 53) (h2 : 2 ≤ n) (h5 : n ≤ 500) : double.order (fI n) (fD k (-53)) = some .gt ∧ double.order (fD k (-53)) (fI n) = some .lt := by
  obtain ⟨c, e1⟩ := fD_read k (-53) hk (by omega) (by omega)
  obtain ⟨a, e2⟩ := fI_read n (by omega)
  obtain ⟨N, rfl⟩ : ∃ N : Nat, n = N := ⟨n.toNat, by omega⟩
  rw [decide_eq_false (by omega), Int.natAbs_natCast] at e2
  obtain ⟨B, hB⟩ : ∃ B : Nat, B = max (53 + c) a := ⟨_, rfl⟩
  have hpos : 0 < 2 ^ (B - 53) := Nat.two_pow_pos _
  have hb : min (-53 - (c : Int)) (-(a : Int)) = -(B : Int) := by omega
  have hb' : min (-(a : Int)) (-53 - (c : Int)) = -(B : Int) := by omega
  have s1 : signed false (k * 2 ^ c) (-53 - (c : Int) - -(B : Int)).toNat = ((k * 2 ^ (B - 53) : Nat) : Int) := by
    rw [signed_false, Nat.mul_assoc, ← Nat.pow_add, show c + (-53 - (c : Int) - -(B : Int)).toNat = B - 53 by omega]
  have s2 : signed false (N * 2 ^ a) (-(a : Int) - -(B : Int)).toNat = ((N * 2 ^ 53 * 2 ^ (B - 53) : Nat) : Int) := by
    have := signed_false (N * 2 ^ a) (-(a : Int) - -(B : Int)).toNat
    rw [Nat.mul_assoc, ← Nat.pow_add, show a + (-(a : Int) - -(B : Int)).toNat = B by omega] at this
    rw [this, Nat.mul_assoc, ← Nat.pow_add, show 53 + (B - 53) = B by omega]
  have hlt : k * 2 ^ (B - 53) < N * 2 ^ 53 * 2 ^ (B - 53) := Nat.mul_lt_mul_of_pos_right (by omega) hpos
  unfold Format.order
  rw [e1, e2]
  unfold Datum.order
  simp only [hb, hb', s1, s2]
  exact ⟨congrArg some (Int.compare_eq_gt.2 (by omega)), congrArg some (Int.compare_eq_lt.2 (by omega))⟩

theorem order_pos {x : Nat} {a b : Int} (h : Mg x false a b) : double.order x 0 = some .gt := by
  obtain ⟨m, p, e, m0, _⟩ := h
  unfold Format.order
  rw [e, read_zero']
  unfold Datum.order
  simp only [signed_false, Nat.zero_mul]
  have : 0 < m * 2 ^ (p - min p (-1074)).toNat := Nat.mul_pos (by omega) (Nat.two_pow_pos _)
  exact congrArg some (Int.compare_eq_gt.2 (by omega))

theorem quo_zero {x : Nat} {a b : Int} (h : Mg x false a b) : floatBits .quo .f64 x 0 = some fInf := by
  obtain ⟨m, p, e, m0, _⟩ := h
  show ((double.read x).quotient (double.fractionBits + 2) (double.read 0)).map double.write = _
  rw [e, read_zero']
  unfold Datum.quotient
  simp only [if_true, if_neg m0]
  rfl
theorem inf_mul : floatBits .mul .f64 fInf 4741671816366391296 = some fInf := by decide
theorem inf_order : double.order fInf (fI 9223372036854775807) = some .gt := by decide

theorem toInt_mag {x : Nat} {a b : Int} (h : Mg x false a b) (hb : b ≤ 60) : ∃ z, floatToIntVal .f64 x .i64 = some z := by
  obtain ⟨m, p, e, m0, m1, l, u⟩ := h
  obtain ⟨C, hC⟩ : ∃ C, C = Toward.zero.cut false (m <<< p.toNat) (-p).toNat := ⟨_, rfl⟩
  have hCl : C < 2 ^ 62 := by
    by_cases hp : 0 ≤ p
    · rw [show (-p).toNat = 0 by omega, cut_zero, Nat.shiftLeft_eq] at hC
      have a2 := Nat.lt_log2_self (n := m)
      have := Nat.mul_lt_mul_of_pos_right a2 (Nat.two_pow_pos p.toNat)
      rw [← Nat.pow_add] at this
      rw [hC]
      exact Nat.lt_of_lt_of_le this (Nat.pow_le_pow_right (by decide) (by omega))
    · rw [show p.toNat = 0 by omega, Nat.shiftLeft_zero] at hC
      unfold Toward.cut at hC
      simp only [Bool.toNat_false, Nat.add_zero] at hC
      have := Nat.div_le_self m (1 <<< min (-p).toNat (m.log2 + 2))
      omega
  refine ⟨(C : Int), ?_⟩
  unfold floatToIntVal
  have h1 : (FloatKind.f64.decode x).toInt .zero = some (C : Int) := by
    show (double.read x).toInt .zero = _
    rw [e]
    unfold Datum.toInt Datum.integral
    simp only [← hC, signed_false, Nat.pow_zero, Nat.mul_one]
  rw [h1]
  show (if IntKind.i64.min ≤ (C : Int) ∧ (C : Int) ≤ IntKind.i64.max then some (C : Int) else none) = some (C : Int)
  rw [if_pos]
  have h1 : IntKind.i64.min = -9223372036854775808 := by decide
  have h2 : IntKind.i64.max = 9223372036854775807 := by decide
  rw [h1, h2]
  omega

/-- All that a leg at speed 0 needs to know of its drawn end (kx, ky) and its start (x, y). -/
theorem leg (kx ky : Nat) (x y : Int) (hx : kx < 2 ^ 53) (hy : ky < 2 ^ 53) (x2 : 2 ≤ x ∧ x ≤ 500) (y2 : 2 ≤ y ∧ y ≤ 500) :
    ∃ dx dy dxx dyy ss dist ux uy, floatBits .sub .f64 (fD kx (-53)) (fI x) = some dx ∧ floatBits .sub .f64 (fD ky (-53)) (fI y) = some dy ∧ floatBits .mul .f64 dx dx = some dxx ∧ floatBits .mul .f64 dy dy = some dyy ∧ floatBits .add .f64 dxx dyy = some ss ∧ double.sqrt ss = some dist ∧ floatBits .quo .f64 dx dist = some ux ∧ floatBits .quo .f64 dy dist = some uy ∧ Mg dist false (-60) 30 ∧ (∃ s a b, Mg ux s a b) ∧ ∃ s a b, Mg uy s a b := by
  obtain ⟨dx, e1, m1⟩ := sub_step kx x hx x2.1 x2.2
  obtain ⟨dy, e2, m2⟩ := sub_step ky y hy y2.1 y2.2
  obtain ⟨dxx, e3, m3⟩ := mul_mag m1 m1 (by omega) (by omega)
  obtain ⟨dyy, e4, m4⟩ := mul_mag m2 m2 (by omega) (by omega)
  obtain ⟨ss, e5, m5⟩ := add_mag m3 m4 (by omega) (by omega) (by omega)
  obtain ⟨dist, e6, m6⟩ := sqrt_mag (m5.mono (lo' := 0) (by omega) (Int.le_refl _)) (by omega)
  obtain ⟨ux, e7, m7⟩ := quo_mag m1 m6 (by omega) (by omega)
  obtain ⟨uy, e8, m8⟩ := quo_mag m2 m6 (by omega) (by omega)
  exact ⟨dx, dy, dxx, dyy, ss, dist, ux, uy, e1, e2, e3, e4, e5, e6, e7, e8, m6, ⟨_, _, _, m7⟩, ⟨_, _, _, m8⟩⟩
end Go.Proofs.Ybulkyyu.CF
