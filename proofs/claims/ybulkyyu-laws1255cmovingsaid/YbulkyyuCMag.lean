/- How great a float64 is, by powers of two: rounding, +, *, /, sqrt keep the bounds; and the dyadic numbers m * 2^z. No Go here. -/
import Derived.Test.YbulkyyuCCell
namespace Go.Proofs.Ybulkyyu.CF
open Ieee

/-- The rung of m * 2^z. -/
def rungZ (m : Nat) (z : Int) : Nat := if m = 0 then 0 else ((m.log2 : Int) + z + 1022).toNat * 2 ^ 52 + m * 2 ^ (52 - m.log2)

theorem nearest_dy (neg : Bool) (m k : Nat) (z : Int) (h2 : m < 2 ^ 53) (hlo : -1022 ≤ z) (hhi : z ≤ 900) : double.nearest neg (m * 2 ^ k) (z - (k : Int)) = double.word neg (rungZ m z) := by
  by_cases h0 : m = 0
  · subst h0; simp [Format.nearest, rungZ]
  · have h : 0 < m := by omega
    have hk : 0 < 2 ^ k := Nat.two_pow_pos k
    have hn : ¬ m * 2 ^ k = 0 := Nat.ne_of_gt (Nat.mul_pos h hk)
    obtain ⟨t1, t2, t3⟩ := top m h h2
    unfold Format.nearest
    rw [if_neg hn]
    have hlast : max (z - (k : Int) + ((m * 2 ^ k).log2 : Nat) - (double.fractionBits : Nat)) double.leastPlace = (m.log2 : Int) + z - 52 := by
      rw [log2_mul m k h, fb, lp]; omega
    simp only [hlast]
    have hkept : Toward.even.cut neg ((m * 2 ^ k) <<< (z - (k : Int) - ((m.log2 : Int) + z - 52)).toNat) ((m.log2 : Int) + z - 52 - (z - (k : Int))).toNat = m * 2 ^ (52 - m.log2) := by
      rw [Nat.shiftLeft_eq]
      by_cases hc : m.log2 + k ≤ 52
      · rw [show ((m.log2 : Int) + z - 52 - (z - (k : Int))).toNat = 0 by omega, cut_zero, show (z - (k : Int) - ((m.log2 : Int) + z - 52)).toNat = 52 - m.log2 - k by omega, Nat.mul_assoc, ← Nat.pow_add, show k + (52 - m.log2 - k) = 52 - m.log2 by omega]
      · rw [show (z - (k : Int) - ((m.log2 : Int) + z - 52)).toNat = 0 by omega, show ((m.log2 : Int) + z - 52 - (z - (k : Int))).toNat = m.log2 + k - 52 by omega, Nat.pow_zero, Nat.mul_one]
        have e : m * 2 ^ k = m * 2 ^ (52 - m.log2) * 2 ^ (m.log2 + k - 52) := by rw [Nat.mul_assoc, ← Nat.pow_add, show 52 - m.log2 + (m.log2 + k - 52) = k by omega]
        rw [e]
        exact cut_exact _ _ _ _ (by omega)
    rw [hkept, show ((m.log2 : Int) + z - 52 - double.leastPlace).toNat = ((m.log2 : Int) + z + 1022).toNat by rw [lp]; omega, bi, ir]
    unfold rungZ
    rw [if_neg h0, Nat.min_eq_left (by omega)]

theorem read_dy (neg : Bool) (m : Nat) (z : Int) (h2 : m < 2 ^ 53) (hlo : -1022 ≤ z) (hhi : z ≤ 900) : ∃ k : Nat, double.read (double.word neg (rungZ m z)) = .number neg (m * 2 ^ k) (z - (k : Int)) := by
  have hr : rungZ m z < 2 ^ 63 := by
    unfold rungZ
    split
    · omega
    · obtain ⟨t1, t2, t3⟩ := top m (by omega) h2
      omega
  have hneg : (double.word neg (rungZ m z) / double.signWeight % 2 == 1) = neg := by
    unfold Format.word
    rw [sw]
    cases neg
    · simp; omega
    · simp; omega
  have hrg : double.word neg (rungZ m z) % double.signWeight = rungZ m z := by
    unfold Format.word
    rw [sw]
    cases neg
    · simp; omega
    · simp; omega
  unfold Format.read
  simp only [hneg, hrg, bi, ir, lp]
  by_cases h0 : m = 0
  · subst h0
    obtain ⟨k, hk⟩ : ∃ k : Nat, k = (z + 1074).toNat := ⟨_, rfl⟩
    refine ⟨k, ?_⟩
    rw [Nat.zero_mul, show rungZ 0 z = 0 from rfl, if_pos (by omega)]
    congr 1
    omega
  · obtain ⟨t1, t2, t3⟩ := top m (by omega) h2
    have e : rungZ m z = ((m.log2 : Int) + z + 1022).toNat * 2 ^ 52 + m * 2 ^ (52 - m.log2) := by unfold rungZ; rw [if_neg h0]
    rw [e]
    refine ⟨52 - m.log2, ?_⟩
    generalize m * 2 ^ (52 - m.log2) = q at *
    rw [if_neg (by omega), if_pos (by omega)]
    congr 1 <;> omega

/-- The number m * 2^z as a float64. -/
def fD (m : Nat) (z : Int) : Nat := double.word false (rungZ m z)
theorem fD_read (m : Nat) (z : Int) (h2 : m < 2 ^ 53) (hlo : -1022 ≤ z) (hhi : z ≤ 900) : ∃ k : Nat, double.read (fD m z) = .number false (m * 2 ^ k) (z - (k : Int)) := read_dy false m z h2 hlo hhi

/-- x is a number of sign s, not 0, at least 2^lo and below 2^(hi+1). -/
def Mg (x : Nat) (s : Bool) (lo hi : Int) : Prop := ∃ m p, double.read x = .number s m p ∧ m ≠ 0 ∧ m < 2 ^ 53 ∧ lo ≤ p + (m.log2 : Int) ∧ p + (m.log2 : Int) ≤ hi

theorem Mg.mono {x : Nat} {s : Bool} {lo hi lo' hi' : Int} (h : Mg x s lo hi) (h1 : lo' ≤ lo) (h2 : hi ≤ hi') : Mg x s lo' hi' := by
  obtain ⟨m, p, a, b, c, d, e⟩ := h
  exact ⟨m, p, a, b, c, by omega, by omega⟩

theorem read_mag (neg : Bool) (R : Nat) (lo hi : Int) (h1 : -1022 ≤ lo) (h2 : hi ≤ 1001) (h3 : (lo + 1023) * 2 ^ 52 ≤ R) (h4 : (R : Int) ≤ (hi + 1023) * 2 ^ 52) : Mg (double.word neg R) neg lo hi := by
  have hneg : (double.word neg R / double.signWeight % 2 == 1) = neg := by
    unfold Format.word
    rw [sw]
    cases neg
    · simp; omega
    · simp; omega
  have hrg : double.word neg R % double.signWeight = R := by
    unfold Format.word
    rw [sw]
    cases neg
    · simp; omega
    · simp; omega
  unfold Mg Format.read
  simp only [hneg, hrg, bi, ir, lp]
  rw [if_neg (by omega), if_pos (by omega)]
  have hl : (2 ^ 52 + R % 2 ^ 52).log2 = 52 := by
    rw [Nat.log2_eq_iff (by omega)]
    omega
  refine ⟨_, _, rfl, by omega, by omega, ?_, ?_⟩
  · rw [hl]; omega
  · rw [hl]; omega

theorem write_mag (s : Bool) (m : Nat) (p lo hi : Int) (h0 : m ≠ 0) (h1 : lo ≤ p + (m.log2 : Int)) (h2 : p + (m.log2 : Int) ≤ hi) (h3 : -1022 ≤ lo) (h4 : hi ≤ 1000) : Mg (double.write (.number s m p)) s lo (hi + 1) := by
  show Mg (double.nearest s m p) s lo (hi + 1)
  have a1 := Nat.log2_self_le (n := m) h0
  have a2 := Nat.lt_log2_self (n := m)
  have hlast : max (p + (m.log2 : Nat) - (double.fractionBits : Nat)) double.leastPlace = p + (m.log2 : Int) - 52 := by
    rw [fb, lp]; omega
  have hk : ∃ K, Toward.even.cut s (m <<< (p - (p + (m.log2 : Int) - 52)).toNat) (p + (m.log2 : Int) - 52 - p).toNat = K ∧ 2 ^ 52 ≤ K ∧ K ≤ 2 ^ 53 := by
    refine ⟨_, rfl, ?_⟩
    rw [Nat.shiftLeft_eq]
    by_cases hc : m.log2 ≤ 52
    · rw [show (p + (m.log2 : Int) - 52 - p).toNat = 0 by omega, cut_zero, show (p - (p + (m.log2 : Int) - 52)).toNat = 52 - m.log2 by omega]
      have hlt : m < 2 ^ 53 := Nat.lt_of_lt_of_le a2 (Nat.pow_le_pow_right (by decide) (by omega))
      obtain ⟨_, t2, t3⟩ := top m (by omega) hlt
      exact ⟨t2, by omega⟩
    · rw [show (p - (p + (m.log2 : Int) - 52)).toNat = 0 by omega, Nat.pow_zero, Nat.mul_one, show (p + (m.log2 : Int) - 52 - p).toNat = m.log2 - 52 by omega]
      unfold Toward.cut
      simp only [Nat.shiftLeft_eq, Nat.one_mul]
      rw [show min (m.log2 - 52) (m.log2 + 2) = m.log2 - 52 by omega]
      have hp : 0 < 2 ^ (m.log2 - 52) := Nat.two_pow_pos _
      have b1 : 2 ^ 52 ≤ m / 2 ^ (m.log2 - 52) := by
        rw [Nat.le_div_iff_mul_le hp, ← Nat.pow_add, show 52 + (m.log2 - 52) = m.log2 by omega]; exact a1
      have b2 : m / 2 ^ (m.log2 - 52) < 2 ^ 53 := by
        rw [Nat.div_lt_iff_lt_mul hp, ← Nat.pow_add, show 53 + (m.log2 - 52) = m.log2 + 1 by omega]; exact a2
      generalize (decide (2 ^ (m.log2 - 52) < 2 * (m % 2 ^ (m.log2 - 52))) || (2 ^ (m.log2 - 52) == 2 * (m % 2 ^ (m.log2 - 52)) && m / 2 ^ (m.log2 - 52) % 2 == 1)) = B
      have := Bool.toNat_le B
      omega
  obtain ⟨K, e, k1, k2⟩ := hk
  unfold Format.nearest
  rw [if_neg h0]
  simp only [hlast]
  rw [e, lp, bi, ir]
  refine read_mag s _ lo (hi + 1) h3 (by omega) ?_ ?_
  · rw [Nat.min_eq_left (by omega)]; omega
  · rw [Nat.min_eq_left (by omega)]; omega

theorem log2_mul_bound (m n : Nat) (hm : m ≠ 0) (hn : n ≠ 0) : m.log2 + n.log2 ≤ (m * n).log2 ∧ (m * n).log2 ≤ m.log2 + n.log2 + 1 := by
  have h0 : m * n ≠ 0 := Nat.mul_ne_zero hm hn
  have a1 := Nat.log2_self_le (n := m) hm
  have a2 := Nat.lt_log2_self (n := m)
  have b1 := Nat.log2_self_le (n := n) hn
  have b2 := Nat.lt_log2_self (n := n)
  constructor
  · rw [Nat.le_log2 h0, Nat.pow_add]; exact Nat.mul_le_mul a1 b1
  · have : (m * n).log2 < m.log2 + n.log2 + 1 + 1 := by
      rw [Nat.log2_lt h0, show m.log2 + n.log2 + 1 + 1 = (m.log2 + 1) + (n.log2 + 1) by omega, Nat.pow_add]
      exact Nat.mul_lt_mul_of_lt_of_lt a2 b2
    omega

theorem mul_mag {x y : Nat} {s t : Bool} {a b c d : Int} (hx : Mg x s a b) (hy : Mg y t c d) (h1 : -1022 ≤ a + c) (h2 : b + d + 1 ≤ 1000) : ∃ r, floatBits .mul .f64 x y = some r ∧ Mg r (s ^^ t) (a + c) (b + d + 2) := by
  obtain ⟨m, p, e1, m0, _, l1, u1⟩ := hx
  obtain ⟨n, q, e2, n0, _, l2, u2⟩ := hy
  refine ⟨double.write (.number (s ^^ t) (m * n) (p + q)), ?_, ?_⟩
  · show ((double.read x).product (double.read y)).map double.write = _
    rw [e1, e2]
    rfl
  · have hl := log2_mul_bound m n m0 n0
    exact (write_mag (s ^^ t) (m * n) (p + q) (a + c) (b + d + 1) (Nat.mul_ne_zero m0 n0) (by omega) (by omega) h1 h2).mono (Int.le_refl _) (by omega)

theorem signed_false (m u : Nat) : signed false m u = ((m * 2 ^ u : Nat) : Int) := by
  unfold signed
  rw [Nat.shiftLeft_eq]
  rfl

theorem add_mag {x y : Nat} {a b c d : Int} (hx : Mg x false a b) (hy : Mg y false c d) (h1 : -1022 ≤ a) (h2 : b ≤ 900) (h3 : d ≤ b) : ∃ r, floatBits .add .f64 x y = some r ∧ Mg r false a (b + 2) := by
  obtain ⟨m, p, e1, m0, _, l1, u1⟩ := hx
  obtain ⟨n, q, e2, n0, _, l2, u2⟩ := hy
  have a1 := Nat.log2_self_le (n := m) m0
  have a2 := Nat.lt_log2_self (n := m)
  have b2 := Nat.lt_log2_self (n := n)
  obtain ⟨U, hU⟩ : ∃ U, U = (p - min p q).toNat := ⟨_, rfl⟩
  obtain ⟨V, hV⟩ : ∃ V, V = (q - min p q).toNat := ⟨_, rfl⟩
  have hU' : 0 < 2 ^ U := Nat.two_pow_pos _
  have hm1 : 0 < m * 2 ^ U := Nat.mul_pos (by omega) hU'
  have ht : ((m * 2 ^ U : Nat) : Int) + ((n * 2 ^ V : Nat) : Int) = ((m * 2 ^ U + n * 2 ^ V : Nat) : Int) := by omega
  refine ⟨double.write (.number false (m * 2 ^ U + n * 2 ^ V) (min p q)), ?_, ?_⟩
  · show ((double.read x).sum (double.read y)).map double.write = _
    rw [e1, e2]
    unfold Datum.sum
    simp only [signed_false, ← hU, ← hV, ht]
    rw [if_neg (by omega), Int.natAbs_natCast, decide_eq_false (by omega)]
    rfl
  · have h0 : m * 2 ^ U + n * 2 ^ V ≠ 0 := by omega
    have lo : m.log2 + U ≤ (m * 2 ^ U + n * 2 ^ V).log2 := by
      rw [Nat.le_log2 h0, Nat.pow_add]
      have := Nat.mul_le_mul_right (2 ^ U) a1
      omega
    have hi : (m * 2 ^ U + n * 2 ^ V).log2 < max (m.log2 + U) (n.log2 + V) + 1 + 1 := by
      rw [Nat.log2_lt h0, Nat.pow_succ]
      have v1 : m * 2 ^ U < 2 ^ (max (m.log2 + U) (n.log2 + V) + 1) := by
        have := Nat.mul_lt_mul_of_pos_right a2 hU'
        rw [← Nat.pow_add] at this
        exact Nat.lt_of_lt_of_le this (Nat.pow_le_pow_right (by decide) (by omega))
      have v2 : n * 2 ^ V < 2 ^ (max (m.log2 + U) (n.log2 + V) + 1) := by
        have := Nat.mul_lt_mul_of_pos_right b2 (Nat.two_pow_pos V)
        rw [← Nat.pow_add] at this
        exact Nat.lt_of_lt_of_le this (Nat.pow_le_pow_right (by decide) (by omega))
      omega
    exact (write_mag false _ (min p q) a (b + 1) h0 (by omega) (by omega) h1 (by omega)).mono (Int.le_refl _) (by omega)

theorem quo_mag {x y : Nat} {s t : Bool} {a b c d : Int} (hx : Mg x s a b) (hy : Mg y t c d) (h1 : -1000 ≤ a - d) (h2 : b - c ≤ 900) : ∃ r, floatBits .quo .f64 x y = some r ∧ Mg r (s ^^ t) (a - d - 1) (b - c + 1) := by
  obtain ⟨m, p, e1, m0, m1, l1, u1⟩ := hx
  obtain ⟨n, q, e2, n0, n1, l2, u2⟩ := hy
  have a1 := Nat.log2_self_le (n := m) m0
  have a2 := Nat.lt_log2_self (n := m)
  have b1 := Nat.log2_self_le (n := n) n0
  have b2 := Nat.lt_log2_self (n := n)
  have hm : m.log2 < 53 := (Nat.log2_lt m0).2 m1
  obtain ⟨M, hM⟩ : ∃ M, M = 54 + n.log2 - m.log2 := ⟨_, rfl⟩
  have hp : 0 < 2 ^ M := Nat.two_pow_pos _
  have d1 : 2 ^ 53 ≤ m * 2 ^ M / n := by
    rw [Nat.le_div_iff_mul_le (by omega)]
    have v1 := Nat.mul_le_mul_right (2 ^ M) a1
    rw [← Nat.pow_add, show m.log2 + M = 53 + (n.log2 + 1) by omega, Nat.pow_add] at v1
    have v2 : 2 ^ 53 * n ≤ 2 ^ 53 * 2 ^ (n.log2 + 1) := Nat.mul_le_mul_left _ (by omega)
    omega
  have d2 : m * 2 ^ M / n < 2 ^ 55 := by
    rw [Nat.div_lt_iff_lt_mul (by omega)]
    have v1 := Nat.mul_lt_mul_of_pos_right a2 hp
    rw [← Nat.pow_add, show m.log2 + 1 + M = 55 + n.log2 by omega, Nat.pow_add] at v1
    have v2 : 2 ^ 55 * 2 ^ n.log2 ≤ 2 ^ 55 * n := Nat.mul_le_mul_left _ (by omega)
    omega
  obtain ⟨K, hK⟩ : ∃ K, K = 2 * (m * 2 ^ M / n) + (m * 2 ^ M % n != 0).toNat := ⟨_, rfl⟩
  have hB := Bool.toNat_le (m * 2 ^ M % n != 0)
  have k0 : K ≠ 0 := by omega
  have kl : 54 ≤ K.log2 := (Nat.le_log2 k0).2 (by omega)
  have kh : K.log2 < 56 := (Nat.log2_lt k0).2 (by omega)
  refine ⟨double.write (.number (s ^^ t) K (p - q - M - 1)), ?_, ?_⟩
  · show ((double.read x).quotient (double.fractionBits + 2) (double.read y)).map double.write = _
    rw [e1, e2]
    unfold Datum.quotient
    simp only [fb]
    rw [if_neg n0, show 52 + 2 + n.log2 - m.log2 = M by omega, Nat.shiftLeft_eq, ← hK]
    rfl
  · exact (write_mag _ K (p - q - M - 1) (a - d - 1) (b - c) k0 (by omega) (by omega) (by omega) (by omega))

theorem rootFrom_lt (n : Nat) : ∀ todo root, Datum.rootFrom n todo root < root + 2 ^ todo := by
  intro todo
  induction todo with
  | zero => intro root; unfold Datum.rootFrom; simp
  | succ k ih =>
    intro root
    unfold Datum.rootFrom
    have h := ih (if (root + 1 <<< k) * (root + 1 <<< k) ≤ n then root + 1 <<< k else root)
    have e : 1 <<< k = 2 ^ k := by rw [Nat.shiftLeft_eq, Nat.one_mul]
    rw [e] at h
    simp only [e]
    rw [Nat.pow_succ]
    split at h
    · rename_i h2; rw [if_pos h2]; omega
    · rename_i h2; rw [if_neg h2]; have := Nat.two_pow_pos k; omega

theorem sqrt_mag {x : Nat} {b : Int} (hx : Mg x false 0 b) (hb : b ≤ 40) : ∃ r, double.sqrt x = some r ∧ Mg r false (-60) 30 := by
  obtain ⟨m, p, e1, m0, m1, l1, u1⟩ := hx
  have hm : m.log2 < 53 := (Nat.log2_lt m0).2 m1
  obtain ⟨M0, hM0⟩ : ∃ M0, M0 = 2 * 54 - m.log2 := ⟨_, rfl⟩
  obtain ⟨M, hM⟩ : ∃ M, M = M0 + ((p - M0) % 2).toNat := ⟨_, rfl⟩
  have hM1 : M0 ≤ M ∧ M ≤ M0 + 1 := by omega
  obtain ⟨n, hn⟩ : ∃ n, n = m <<< M := ⟨_, rfl⟩
  have hnl : n.log2 = m.log2 + M := by rw [hn, Nat.shiftLeft_eq]; exact log2_mul m M (by omega)
  have hn0 : n ≠ 0 := by rw [hn, Nat.shiftLeft_eq]; exact Nat.mul_ne_zero m0 (Nat.ne_of_gt (Nat.two_pow_pos _))
  obtain ⟨W, hW⟩ : ∃ W, W = Datum.rootFrom n (n.log2 / 2 + 1) 0 := ⟨_, rfl⟩
  have hWl : W < 2 ^ 57 := by
    have := rootFrom_lt n (n.log2 / 2 + 1) 0
    rw [← hW, Nat.zero_add] at this
    exact Nat.lt_of_lt_of_le this (Nat.pow_le_pow_right (by decide) (by omega))
  obtain ⟨K, hK⟩ : ∃ K, K = 2 * W + (W * W != n).toNat := ⟨_, rfl⟩
  have hB := Bool.toNat_le (W * W != n)
  have k0 : K ≠ 0 := by
    by_cases h : W = 0
    · rw [hK, h]; simp [Ne.symm hn0]
    · omega
  have kh : K.log2 < 58 := (Nat.log2_lt k0).2 (by omega)
  refine ⟨double.write (.number false K ((p - M) / 2 - 1)), ?_, ?_⟩
  · show ((double.read x).root (double.fractionBits + 2)).map double.write = _
    rw [e1]
    unfold Datum.root
    simp only [fb]
    rw [if_neg m0]
    simp only [← hM0, ← hM, ← hn, ← hW, ← hK]
    rfl
  · exact (write_mag false K ((p - M) / 2 - 1) (-60) 29 k0 (by omega) (by omega) (by omega) (by omega)).mono (by omega) (by omega)
end Go.Proofs.Ybulkyyu.CF
