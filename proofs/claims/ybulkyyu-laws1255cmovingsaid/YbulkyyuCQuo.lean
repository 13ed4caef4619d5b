/- floor(v / c) of small whole numbers, as float64: exact. No Go here. -/
import Derived.Test.YbulkyyuCFloat
namespace Go.Proofs.Ybulkyyu.CF
open Ieee

theorem cut_down (n j : Nat) : Toward.down.cut false n j = n / 2 ^ j := by
  unfold Toward.cut
  simp only [Nat.shiftLeft_eq, Nat.one_mul, Bool.false_and, Bool.toNat_false, Nat.add_zero]
  by_cases h : j ≤ n.log2 + 2
  · rw [Nat.min_eq_left h]
  · have hl : n < 2 ^ (n.log2 + 1) := Nat.lt_log2_self
    have h1 : 2 ^ (n.log2 + 1) ≤ 2 ^ (n.log2 + 2) := Nat.pow_le_pow_right (by omega) (by omega)
    have h2 : 2 ^ (n.log2 + 1) ≤ 2 ^ j := Nat.pow_le_pow_right (by omega) (by omega)
    rw [Nat.min_eq_right (by omega), Nat.div_eq_of_lt (by omega), Nat.div_eq_of_lt (by omega)]

theorem cut_even_le (neg : Bool) (n j : Nat) (h : j ≤ n.log2 + 2) : n / 2 ^ j ≤ Toward.even.cut neg n j ∧ Toward.even.cut neg n j ≤ n / 2 ^ j + 1 := by
  unfold Toward.cut
  simp only [Nat.shiftLeft_eq, Nat.one_mul, Nat.min_eq_left h]
  generalize (decide (2 ^ j < 2 * (n % 2 ^ j)) || _) = b
  cases b <;> simp

/-- Rounded, and then cut downwards: M * 2 ^ (-E) lies between q and q + 1 with room. -/
theorem round_down (M E q : Nat) (h1 : 2 ^ 52 ≤ M) (hl : M.log2 ≤ E + 10) (hl2 : E ≤ M.log2 + 10) (hlo : q * 2 ^ E ≤ M) (hhi : M + 2 ^ (M.log2 - 52) < (q + 1) * 2 ^ E) :
    ∃ (m : Nat) (p : Int), double.read (double.nearest false M (-(E : Int))) = .number false m p ∧ Toward.down.cut false (m <<< p.toNat) (-p).toNat = q := by
  have hM : M ≠ 0 := by omega
  have hL : 52 ≤ M.log2 := (Nat.le_log2 hM).2 h1
  have a1 := Nat.log2_self_le hM
  have a2 := Nat.lt_log2_self (n := M)
  obtain ⟨L, hLe⟩ : ∃ L, L = M.log2 := ⟨_, rfl⟩
  rw [← hLe] at hl hl2 hhi hL a1 a2
  obtain ⟨D, rfl⟩ : ∃ D, L = 52 + D := ⟨L - 52, by omega⟩
  obtain ⟨F, hF⟩ : ∃ F, E = F + D := ⟨E - D, by omega⟩
  rw [show 52 + D - 52 = D by omega] at hhi
  have hD : 0 < 2 ^ D := Nat.two_pow_pos D
  have hpE : 2 ^ E = 2 ^ F * 2 ^ D := by rw [hF, Nat.pow_add]
  obtain ⟨K, hK⟩ : ∃ K, K = Toward.even.cut false M D := ⟨_, rfl⟩
  obtain ⟨k1, k2⟩ := cut_even_le false M D (by omega)
  rw [← hK] at k1 k2
  have b1 : 2 ^ 52 ≤ M / 2 ^ D := (Nat.le_div_iff_mul_le hD).2 (by rw [← Nat.pow_add]; exact a1)
  have b2 : M / 2 ^ D < 2 ^ 53 := (Nat.div_lt_iff_lt_mul hD).2 (by rw [← Nat.pow_add, show 53 + D = 52 + D + 1 by omega]; exact a2)
  have b3 : q * 2 ^ F ≤ M / 2 ^ D := (Nat.le_div_iff_mul_le hD).2 (by rw [Nat.mul_assoc, ← hpE]; exact hlo)
  have b4 : M / 2 ^ D + 1 < (q + 1) * 2 ^ F := by
    have : M < ((q + 1) * 2 ^ F - 1) * 2 ^ D := by
      rw [Nat.sub_mul, Nat.mul_assoc, ← hpE, Nat.one_mul]; omega
    have := (Nat.div_lt_iff_lt_mul hD).2 this
    omega
  have hrung : double.nearest false M (-(E : Int)) = (D + 1074 - E) * 2 ^ 52 + K := by
    unfold Format.nearest
    rw [if_neg hM, ← hLe]
    have hlast : max (-(E : Int) + ((52 + D : Nat) : Int) - (double.fractionBits : Nat)) double.leastPlace = (D : Int) - E := by
      rw [fb, lp]; omega
    simp only [hlast]
    rw [show (-(E : Int) - ((D : Int) - E)).toNat = 0 by omega, show ((D : Int) - E - -(E : Int)).toNat = D by omega, Nat.shiftLeft_zero, ← hK, show ((D : Int) - E - double.leastPlace).toNat = D + 1074 - E by rw [lp]; omega, bi, ir]
    unfold Format.word
    rw [if_neg (by simp), Nat.min_eq_left (by omega)]
  have hneg : (((D + 1074 - E) * 2 ^ 52 + K) / double.signWeight % 2 == 1) = false := by
    rw [sw, Nat.div_eq_of_lt (by omega)]; rfl
  have hmod : ((D + 1074 - E) * 2 ^ 52 + K) % double.signWeight = (D + 1074 - E) * 2 ^ 52 + K := by
    rw [sw, Nat.mod_eq_of_lt (by omega)]
  rw [hrung]
  unfold Format.read
  simp only [hneg, hmod, bi, ir, lp]
  rw [if_neg (by omega), if_pos (by omega)]
  have hq : K / 2 ^ F = q := by
    have hF0 : 0 < 2 ^ F := Nat.two_pow_pos F
    have c1 : q ≤ K / 2 ^ F := (Nat.le_div_iff_mul_le hF0).2 (by omega)
    have c2 : K / 2 ^ F < q + 1 := (Nat.div_lt_iff_lt_mul hF0).2 (by omega)
    omega
  by_cases hc : K < 2 ^ 53
  · refine ⟨_, _, rfl, ?_⟩
    rw [show 2 ^ 52 + ((D + 1074 - E) * 2 ^ 52 + K) % 2 ^ 52 = K by omega,
      show (-1074 : Int) + ((((D + 1074 - E) * 2 ^ 52 + K) / 2 ^ 52 - 1 : Nat) : Int) = -(F : Int) by omega,
      show (-(F : Int)).toNat = 0 by omega, show (- -(F : Int)).toNat = F by omega, Nat.shiftLeft_zero, cut_down, hq]
  · have hK53 : K = 2 ^ 53 := by omega
    obtain ⟨G, rfl⟩ : ∃ G, F = G + 1 := ⟨F - 1, by omega⟩
    refine ⟨_, _, rfl, ?_⟩
    rw [show 2 ^ 52 + ((D + 1074 - E) * 2 ^ 52 + K) % 2 ^ 52 = 2 ^ 52 by omega,
      show (-1074 : Int) + ((((D + 1074 - E) * 2 ^ 52 + K) / 2 ^ 52 - 1 : Nat) : Int) = -(G : Int) by omega,
      show (-(G : Int)).toNat = 0 by omega, show (- -(G : Int)).toNat = G by omega, Nat.shiftLeft_zero, cut_down, ← hq, hK53, show (2 : Nat) ^ 53 = 2 ^ 52 * 2 by rfl, Nat.pow_succ 2 G, Nat.mul_div_mul_right _ _ (by omega)]

theorem quo_bounds (v c e : Nat) (hv : 0 < v) (hv2 : v ≤ 1000) (hc : 0 < c) (hc2 : c ≤ 1000) (he : 54 + c.log2 ≤ e + v.log2) (st : Nat) (hst : st ≤ 1) :
    2 ^ 52 ≤ 2 * (v * 2 ^ e / c) + st ∧ (2 * (v * 2 ^ e / c) + st).log2 ≤ e + 1 + 10 ∧ e + 1 ≤ (2 * (v * 2 ^ e / c) + st).log2 + 10 ∧ v / c * 2 ^ (e + 1) ≤ 2 * (v * 2 ^ e / c) + st ∧
      2 * (v * 2 ^ e / c) + st + 2 ^ ((2 * (v * 2 ^ e / c) + st).log2 - 52) < (v / c + 1) * 2 ^ (e + 1) := by
  obtain ⟨A, hA⟩ : ∃ A, A = v * 2 ^ e / c := ⟨_, rfl⟩
  have lv : v.log2 < 10 := (Nat.log2_lt (by omega)).2 (by omega)
  have lc : c.log2 < 10 := (Nat.log2_lt (by omega)).2 (by omega)
  have he44 : 44 ≤ e := by omega
  have hp : 0 < 2 ^ e := Nat.two_pow_pos e
  have hp1 : 2 ^ (e + 1) = 2 * 2 ^ e := by rw [Nat.pow_succ]; omega
  have hA53 : 2 ^ 53 ≤ A := by
    rw [hA, Nat.le_div_iff_mul_le hc]
    have x1 := Nat.log2_self_le (n := v) (by omega)
    have x2 := Nat.lt_log2_self (n := c)
    have x3 : 2 ^ (54 + c.log2) ≤ 2 ^ (v.log2 + e) := Nat.pow_le_pow_right (by omega) (by omega)
    have x4 : 2 ^ v.log2 * 2 ^ e ≤ v * 2 ^ e := Nat.mul_le_mul_right _ x1
    have x5 : 2 ^ (54 + c.log2) = 2 ^ 53 * 2 ^ (c.log2 + 1) := by rw [← Nat.pow_add]; congr 1; omega
    have x6 : 2 ^ 53 * c ≤ 2 ^ 53 * 2 ^ (c.log2 + 1) := Nat.mul_le_mul_left _ (by omega)
    rw [← Nat.pow_add] at x4
    omega
  have hAle : A * c ≤ v * 2 ^ e := by rw [hA]; exact Nat.div_mul_le_self _ _
  have hAv : A ≤ v * 2 ^ e := by rw [hA]; exact Nat.div_le_self _ _
  have hA10 : 2 ^ (e - 10) ≤ A := by
    rw [hA, Nat.le_div_iff_mul_le hc]
    have y1 : 2 ^ (e - 10) * c ≤ 2 ^ (e - 10) * 2 ^ 10 := Nat.mul_le_mul_left _ (by omega)
    rw [← Nat.pow_add, show e - 10 + 10 = e by omega] at y1
    have y2 : 1 * 2 ^ e ≤ v * 2 ^ e := Nat.mul_le_mul_right _ hv
    omega
  have hvle : v * 2 ^ e ≤ 1000 * 2 ^ e := Nat.mul_le_mul_right _ hv2
  rw [← hA]
  obtain ⟨M, hM⟩ : ∃ M, M = 2 * A + st := ⟨_, rfl⟩
  rw [← hM]
  have hM0 : M ≠ 0 := by omega
  have l1 : M.log2 < e + 1 + 10 := (Nat.log2_lt hM0).2 (by rw [Nat.pow_add, hp1]; omega)
  have l2 : e - 9 ≤ M.log2 := (Nat.le_log2 hM0).2 (by rw [show e - 9 = e - 10 + 1 by omega, Nat.pow_succ]; omega)
  have l3 : 52 ≤ M.log2 := (Nat.le_log2 hM0).2 (by omega)
  have hqc : v / c * c ≤ v := Nat.div_mul_le_self _ _
  have hqA : v / c * 2 ^ e ≤ A := by
    rw [hA, Nat.le_div_iff_mul_le hc, Nat.mul_right_comm]
    exact Nat.mul_le_mul_right _ hqc
  refine ⟨by omega, by omega, by omega, ?_, ?_⟩
  · rw [hp1, show v / c * (2 * 2 ^ e) = 2 * (v / c * 2 ^ e) by rw [Nat.mul_left_comm]]; omega
  · obtain ⟨D, hD⟩ : ∃ D, M.log2 = 52 + D := ⟨M.log2 - 52, by omega⟩
    rw [hD, show 52 + D - 52 = D by omega]
    have hv1 : v + 1 ≤ (v / c + 1) * c := by
      have := Nat.div_add_mod v c
      have := Nat.mod_lt v hc
      rw [Nat.add_mul, Nat.mul_comm (v / c) c]; omega
    have hd0 : 0 < 2 ^ D := Nat.two_pow_pos D
    -- all times c
    have z1 : (v + 1) * 2 ^ (e + 1) ≤ (v / c + 1) * c * 2 ^ (e + 1) := Nat.mul_le_mul_right _ hv1
    have z2 : M * c ≤ v * 2 ^ (e + 1) + c := by
      rw [hM, hp1, Nat.add_mul, show v * (2 * 2 ^ e) = 2 * (v * 2 ^ e) by rw [Nat.mul_left_comm], Nat.mul_assoc]
      have : st * c ≤ 1 * c := Nat.mul_le_mul_right _ hst
      omega
    have z3 : 2 ^ D * c + c < 2 ^ (e + 1) := by
      have t1 : 2 ^ D * c ≤ 2 ^ D * 1000 := Nat.mul_le_mul_left _ hc2
      have t2 : 2 ^ (D + 12) ≤ 2 ^ (e + 1) := Nat.pow_le_pow_right (by omega) (by omega)
      rw [Nat.pow_add] at t2
      omega
    have z4 : (M + 2 ^ D) * c < (v / c + 1) * 2 ^ (e + 1) * c := by
      rw [Nat.add_mul, Nat.mul_right_comm]
      rw [Nat.add_mul, Nat.one_mul] at z1
      omega
    exact Nat.lt_of_mul_lt_mul_right z4

/-- v / c as a float64, cut downwards, is the whole number v / c. -/
theorem floor_quo (v c : Nat) (hv : 0 < v) (hv2 : v ≤ 1000) (hc : 0 < c) (hc2 : c ≤ 1000) :
    ∃ r m p, floatBits .quo .f64 (fI v) (fI c) = some r ∧ double.read r = .number false m p ∧ Toward.down.cut false (m <<< p.toNat) (-p).toNat = v / c := by
  obtain ⟨k, e1⟩ := fI_read v (by omega)
  obtain ⟨l, e2⟩ := fI_read c (by omega)
  rw [Int.natAbs_natCast, decide_eq_false (by omega)] at e1 e2
  obtain ⟨more, hmore⟩ : ∃ more, more = 54 + (c * 2 ^ l).log2 - (v * 2 ^ k).log2 := ⟨_, rfl⟩
  have hm2 := hmore
  rw [log2_mul c l hc, log2_mul v k hv] at hm2
  have lv : v.log2 < 10 := (Nat.log2_lt (by omega)).2 (by omega)
  obtain ⟨e, he⟩ : ∃ e, k + more = e + l := ⟨k + more - l, by omega⟩
  have hl : 0 < 2 ^ l := Nat.two_pow_pos l
  obtain ⟨st, hst⟩ : ∃ st, st = ((v * 2 ^ e * 2 ^ l % (c * 2 ^ l) != 0) : Bool).toNat := ⟨_, rfl⟩
  have hst1 : st ≤ 1 := by rw [hst]; exact Bool.toNat_le _
  obtain ⟨B1, B2, B3, B4, B5⟩ := quo_bounds v c e hv hv2 hc hc2 (by omega) st hst1
  have hdiv : v * 2 ^ e * 2 ^ l / (c * 2 ^ l) = v * 2 ^ e / c := Nat.mul_div_mul_right _ _ hl
  have hn : ¬ c * 2 ^ l = 0 := Nat.ne_of_gt (Nat.mul_pos hc hl)
  obtain ⟨m, p, hr, hcut⟩ := round_down _ (e + 1) (v / c) B1 B2 B3 B4 B5
  refine ⟨_, m, p, ?_, hr, hcut⟩
  show ((double.read (fI v)).quotient (double.fractionBits + 2) (double.read (fI c))).map double.write = _
  rw [e1, e2]
  unfold Datum.quotient
  rw [fb]
  simp only [hn, if_false, ← hmore]
  rw [Nat.shiftLeft_eq, Nat.mul_assoc, ← Nat.pow_add, he, Nat.pow_add, ← Nat.mul_assoc, hdiv, ← hst, Option.map_some]
  rw [show -(k : Int) - -(l : Int) - (more : Int) - 1 = -((e + 1 : Nat) : Int) by omega]
  rfl
end Go.Proofs.Ybulkyyu.CF
