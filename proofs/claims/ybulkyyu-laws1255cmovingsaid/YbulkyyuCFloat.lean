/- Whole numbers as float64: exact under +, -, *, and in their order. No Go here. -/
import Derived.Laws.FloatArith
namespace Go.Proofs.Ybulkyyu.CF
open Ieee

theorem fb : double.fractionBits = 52 := rfl
theorem lp : double.leastPlace = -1074 := by decide
theorem bi : double.binade = 2 ^ 52 := rfl
theorem ir : double.infRung = 2047 * 2 ^ 52 := by decide
theorem sw : double.signWeight = 2 ^ 63 := rfl

theorem log2_mul (m k : Nat) (h : 0 < m) : (m * 2 ^ k).log2 = m.log2 + k := by
  have hk : 0 < 2 ^ k := Nat.two_pow_pos k
  have h0 : m * 2 ^ k ≠ 0 := Nat.ne_of_gt (Nat.mul_pos h hk)
  rw [Nat.log2_eq_iff h0]
  have a1 := Nat.log2_self_le (n := m) (by omega)
  have a2 := Nat.lt_log2_self (n := m)
  constructor
  · rw [Nat.pow_add]; exact Nat.mul_le_mul_right _ a1
  · rw [show m.log2 + k + 1 = (m.log2 + 1) + k by omega, Nat.pow_add]; exact Nat.mul_lt_mul_of_pos_right a2 hk

theorem cut_zero (way : Toward) (neg : Bool) (n : Nat) : way.cut neg n 0 = n := by
  unfold Toward.cut
  cases way <;> simp [Nat.mod_one]

theorem cut_exact (way : Toward) (neg : Bool) (n j : Nat) (h : 0 < n) : way.cut neg (n * 2 ^ j) j = n := by
  have hm : min j ((n * 2 ^ j).log2 + 2) = j := by rw [log2_mul n j h]; omega
  have h2 : 0 < 2 ^ j := Nat.two_pow_pos j
  have h3 : n * 2 ^ j / 2 ^ j = n := Nat.mul_div_cancel _ h2
  have h4 : n * 2 ^ j % 2 ^ j = 0 := Nat.mul_mod_left ..
  unfold Toward.cut
  simp only [hm, Nat.shiftLeft_eq, Nat.one_mul, h3, h4]
  cases way <;> simp

/-- The rung of the whole number m. -/
def rung (m : Nat) : Nat := if m = 0 then 0 else (m.log2 + 1022) * 2 ^ 52 + m * 2 ^ (52 - m.log2)

theorem top (m : Nat) (h : 0 < m) (h2 : m < 2 ^ 53) : m.log2 ≤ 52 ∧ 2 ^ 52 ≤ m * 2 ^ (52 - m.log2) ∧ m * 2 ^ (52 - m.log2) < 2 ^ 53 := by
  have a1 := Nat.log2_self_le (n := m) (by omega)
  have a2 := Nat.lt_log2_self (n := m)
  have a3 : m.log2 < 53 := (Nat.log2_lt (by omega)).2 h2
  have hp : 0 < 2 ^ (52 - m.log2) := Nat.two_pow_pos _
  refine ⟨by omega, ?_, ?_⟩
  · have := Nat.mul_le_mul_right (2 ^ (52 - m.log2)) a1
    rw [← Nat.pow_add, show m.log2 + (52 - m.log2) = 52 by omega] at this
    exact this
  · have := Nat.mul_lt_mul_of_pos_right a2 hp
    rw [← Nat.pow_add, show m.log2 + 1 + (52 - m.log2) = 53 by omega] at this
    exact this

theorem nearest_whole (neg : Bool) (m k : Nat) (h2 : m < 2 ^ 53) : double.nearest neg (m * 2 ^ k) (-(k : Int)) = double.word neg (rung m) := by
  by_cases h0 : m = 0
  · subst h0; simp [Format.nearest, rung]
  · have h : 0 < m := by omega
    have hk : 0 < 2 ^ k := Nat.two_pow_pos k
    have hn : ¬ m * 2 ^ k = 0 := Nat.ne_of_gt (Nat.mul_pos h hk)
    obtain ⟨t1, t2, t3⟩ := top m h h2
    unfold Format.nearest
    rw [if_neg hn]
    have hlast : max (-(k : Int) + ((m * 2 ^ k).log2 : Nat) - (double.fractionBits : Nat)) double.leastPlace = (m.log2 : Int) - 52 := by
      rw [log2_mul m k h, fb, lp]; omega
    simp only [hlast]
    have hkept : Toward.even.cut neg ((m * 2 ^ k) <<< (-(k : Int) - ((m.log2 : Int) - 52)).toNat) ((m.log2 : Int) - 52 - -(k : Int)).toNat = m * 2 ^ (52 - m.log2) := by
      rw [Nat.shiftLeft_eq]
      by_cases hc : m.log2 + k ≤ 52
      · rw [show ((m.log2 : Int) - 52 - -(k : Int)).toNat = 0 by omega, cut_zero, show (-(k : Int) - ((m.log2 : Int) - 52)).toNat = 52 - m.log2 - k by omega, Nat.mul_assoc, ← Nat.pow_add, show k + (52 - m.log2 - k) = 52 - m.log2 by omega]
      · rw [show (-(k : Int) - ((m.log2 : Int) - 52)).toNat = 0 by omega, show ((m.log2 : Int) - 52 - -(k : Int)).toNat = m.log2 + k - 52 by omega, Nat.pow_zero, Nat.mul_one]
        have e : m * 2 ^ k = m * 2 ^ (52 - m.log2) * 2 ^ (m.log2 + k - 52) := by rw [Nat.mul_assoc, ← Nat.pow_add, show 52 - m.log2 + (m.log2 + k - 52) = k by omega]
        rw [e]
        exact cut_exact _ _ _ _ (by omega)
    rw [hkept, show ((m.log2 : Int) - 52 - double.leastPlace).toNat = m.log2 + 1022 by rw [lp]; omega, bi, ir]
    unfold rung
    rw [if_neg h0, Nat.min_eq_left (by omega)]

theorem read_whole (neg : Bool) (m : Nat) (h2 : m < 2 ^ 53) : ∃ k : Nat, k ≤ 1074 ∧ double.read (double.word neg (rung m)) = .number neg (m * 2 ^ k) (-(k : Int)) := by
  have hr : rung m < 2 ^ 63 := by
    unfold rung
    split
    · omega
    · obtain ⟨t1, t2, t3⟩ := top m (by omega) h2
      omega
  have hneg : (double.word neg (rung m) / double.signWeight % 2 == 1) = neg := by
    unfold Format.word
    rw [sw]
    cases neg
    · simp; omega
    · simp; omega
  have hrg : double.word neg (rung m) % double.signWeight = rung m := by
    unfold Format.word
    rw [sw]
    cases neg
    · simp; omega
    · simp; omega
  unfold Format.read
  simp only [hneg, hrg, bi, ir, lp]
  by_cases h0 : m = 0
  · subst h0
    obtain ⟨k, hk⟩ : ∃ k : Nat, k = 1074 := ⟨_, rfl⟩
    refine ⟨k, by omega, ?_⟩
    rw [Nat.zero_mul, show rung 0 = 0 from rfl, if_pos (by omega), hk]
    rfl
  · obtain ⟨t1, t2, t3⟩ := top m (by omega) h2
    have e : rung m = (m.log2 + 1022) * 2 ^ 52 + m * 2 ^ (52 - m.log2) := by unfold rung; rw [if_neg h0]
    rw [e]
    refine ⟨52 - m.log2, by omega, ?_⟩
    generalize m * 2 ^ (52 - m.log2) = q at *
    rw [if_neg (by omega), if_pos (by omega)]
    congr 1 <;> omega

/-- The whole number n as a float64. -/
def fI (n : Int) : Nat := FloatKind.f64.nearest n
theorem fI_word (n : Int) (h : n.natAbs < 2 ^ 53) : fI n = double.word (decide (n < 0)) (rung n.natAbs) := by
  have := nearest_whole (decide (n < 0)) n.natAbs 0 h
  rw [Nat.pow_zero, Nat.mul_one] at this
  exact this
theorem fI_read (n : Int) (h : n.natAbs < 2 ^ 53) : ∃ k : Nat, double.read (fI n) = .number (decide (n < 0)) (n.natAbs * 2 ^ k) (-(k : Int)) := by
  rw [fI_word n h]
  obtain ⟨k, _, e⟩ := read_whole (decide (n < 0)) n.natAbs h
  exact ⟨k, e⟩
theorem write_whole (s : Bool) (n : Int) (k : Nat) (h : n.natAbs < 2 ^ 53) (hs : s = decide (n < 0)) : double.write (.number s (n.natAbs * 2 ^ k) (-(k : Int))) = fI n := by
  rw [fI_word n h, hs]
  exact nearest_whole _ _ _ h

theorem signed_whole (s : Bool) (n : Int) (k u : Nat) (hs : n ≠ 0 → s = decide (n < 0)) : signed s (n.natAbs * 2 ^ k) u = n * 2 ^ (k + u) := by
  unfold signed
  rw [Nat.shiftLeft_eq, Nat.mul_assoc, ← Nat.pow_add]
  have hc : ((2 ^ (k + u) : Nat) : Int) = (2 : Int) ^ (k + u) := by simp
  by_cases h0 : n = 0
  · subst h0; simp
  · rw [hs h0, Int.natCast_mul, hc]
    by_cases hn : n < 0
    · rw [if_pos (by simpa using hn), show ((n.natAbs : Nat) : Int) = -n by omega, Int.neg_mul, Int.neg_neg]
    · rw [if_neg (by simpa using hn), show ((n.natAbs : Nat) : Int) = n by omega]

theorem mul_neg_iff {x P : Int} (hp : 0 < P) : x * P < 0 ↔ x < 0 := by
  constructor
  · intro h
    by_cases y : x < 0
    · exact y
    · have := Int.mul_nonneg (Int.not_lt.1 y) (Int.le_of_lt hp); omega
  · intro h; exact Int.mul_neg_of_neg_of_pos h hp

theorem sum_whole (a b : Int) (s t : Bool) (k l : Nat) (hs : a ≠ 0 → s = decide (a < 0)) (ht : b ≠ 0 → t = decide (b < 0)) :
    (Datum.number s (a.natAbs * 2 ^ k) (-(k : Int))).sum (.number t (b.natAbs * 2 ^ l) (-(l : Int))) = some (.number (if a + b = 0 then s && t else decide (a + b < 0)) ((a + b).natAbs * 2 ^ (max k l)) (-((max k l : Nat) : Int))) := by
  have e1 : (-(k : Int) - min (-(k : Int)) (-(l : Int))).toNat = max k l - k := by omega
  have e2 : (-(l : Int) - min (-(k : Int)) (-(l : Int))).toNat = max k l - l := by omega
  have e3 : min (-(k : Int)) (-(l : Int)) = -((max k l : Nat) : Int) := by omega
  have hp : (0 : Int) < 2 ^ (max k l) := Int.pow_pos (by decide)
  have z : a * 2 ^ (max k l) + b * 2 ^ (max k l) = (a + b) * 2 ^ (max k l) := (Int.add_mul ..).symm
  unfold Datum.sum
  simp only [e1, e2]
  rw [signed_whole s a k _ hs, signed_whole t b l _ ht, show k + (max k l - k) = max k l by omega, show l + (max k l - l) = max k l by omega, z, e3]
  have n1 : ((a + b) * 2 ^ (max k l)).natAbs = (a + b).natAbs * 2 ^ (max k l) := by rw [Int.natAbs_mul, Int.natAbs_pow]; rfl
  rw [n1]
  have n2 : ((a + b) * 2 ^ (max k l) = 0) ↔ a + b = 0 := by
    constructor
    · intro h
      rcases Int.mul_eq_zero.1 h with h | h
      · exact h
      · omega
    · intro h; rw [h, Int.zero_mul]
  have n3 : ((a + b) * 2 ^ (max k l) < 0) ↔ a + b < 0 := mul_neg_iff hp
  simp only [n2, n3]

theorem sum_fI (a b : Int) (s t : Bool) (k l : Nat) (hs : a ≠ 0 → s = decide (a < 0)) (ht : b ≠ 0 → t = decide (b < 0)) (hz : a = 0 → b = 0 → (s && t) = false) (h : (a + b).natAbs < 2 ^ 53) :
    ((Datum.number s (a.natAbs * 2 ^ k) (-(k : Int))).sum (.number t (b.natAbs * 2 ^ l) (-(l : Int)))).map double.write = some (fI (a + b)) := by
  rw [sum_whole a b s t k l hs ht, Option.map_some, write_whole _ (a + b) _ h ?_]
  by_cases h0 : a + b = 0
  · rw [if_pos h0, decide_eq_false (by omega)]
    by_cases ha : a = 0
    · exact hz ha (by omega)
    · rw [hs ha, ht (by omega)]
      by_cases hn : a < 0
      · simp; omega
      · simp; omega
  · rw [if_neg h0]

theorem add_fI (a b : Int) (ha : a.natAbs < 2 ^ 53) (hb : b.natAbs < 2 ^ 53) (h : (a + b).natAbs < 2 ^ 53) : floatBits .add .f64 (fI a) (fI b) = some (fI (a + b)) := by
  obtain ⟨k, e1⟩ := fI_read a ha
  obtain ⟨l, e2⟩ := fI_read b hb
  show ((double.read (fI a)).sum (double.read (fI b))).map double.write = _
  rw [e1, e2]
  exact sum_fI a b _ _ k l (fun _ => rfl) (fun _ => rfl) (fun e _ => by simp [e]) h

theorem sub_fI (a b : Int) (ha : a.natAbs < 2 ^ 53) (hb : b.natAbs < 2 ^ 53) (h : (a - b).natAbs < 2 ^ 53) : floatBits .sub .f64 (fI a) (fI b) = some (fI (a - b)) := by
  obtain ⟨k, e1⟩ := fI_read a ha
  obtain ⟨l, e2⟩ := fI_read b hb
  show ((double.read (fI a)).sum (double.read (fI b)).opposite).map double.write = _
  rw [e1, e2]
  have := sum_fI a (-b) (decide (a < 0)) (!decide (b < 0)) k l (fun _ => rfl) (fun hb => by by_cases e : b < 0 <;> simp [e] <;> omega) (fun e _ => by simp [e]) (by rw [← Int.sub_eq_add_neg]; exact h)
  rw [Int.natAbs_neg, ← Int.sub_eq_add_neg] at this
  exact this

theorem mul_fI (a b : Int) (ha : a.natAbs < 2 ^ 53) (hb : b.natAbs < 2 ^ 53) (h : (a * b).natAbs < 2 ^ 53) (hs : a * b = 0 → decide (a < 0) = decide (b < 0)) : floatBits .mul .f64 (fI a) (fI b) = some (fI (a * b)) := by
  obtain ⟨k, e1⟩ := fI_read a ha
  obtain ⟨l, e2⟩ := fI_read b hb
  show ((double.read (fI a)).product (double.read (fI b))).map double.write = _
  rw [e1, e2]
  unfold Datum.product
  rw [Option.map_some, show a.natAbs * 2 ^ k * (b.natAbs * 2 ^ l) = (a * b).natAbs * 2 ^ (k + l) by rw [Int.natAbs_mul, Nat.pow_add]; simp only [Nat.mul_assoc, Nat.mul_left_comm], show -(k : Int) + -(l : Int) = -((k + l : Nat) : Int) by omega, write_whole _ (a * b) _ h ?_]
  by_cases h0 : a * b = 0
  · rw [hs h0, h0]; simp
  · have ha0 : a ≠ 0 := fun e => h0 (by rw [e, Int.zero_mul])
    have hb0 : b ≠ 0 := fun e => h0 (by rw [e, Int.mul_zero])
    rcases Int.lt_or_gt_of_ne ha0 with x | x <;> rcases Int.lt_or_gt_of_ne hb0 with y | y
    · have := Int.mul_pos_of_neg_of_neg x y; simp [x, y]; omega
    · have := Int.mul_neg_of_neg_of_pos x y; rw [decide_eq_true x, decide_eq_false (by omega), decide_eq_true this]; rfl
    · have := Int.mul_neg_of_pos_of_neg x y; rw [decide_eq_true y, decide_eq_false (by omega), decide_eq_true this]; rfl
    · have := Int.mul_pos x y; rw [decide_eq_false (by omega), decide_eq_false (by omega), decide_eq_false (by omega)]; rfl

theorem order_fI (a b : Int) (ha : a.natAbs < 2 ^ 53) (hb : b.natAbs < 2 ^ 53) : double.order (fI a) (fI b) = some (compare a b) := by
  obtain ⟨k, e1⟩ := fI_read a ha
  obtain ⟨l, e2⟩ := fI_read b hb
  unfold Format.order
  rw [e1, e2]
  have d1 : (-(k : Int) - min (-(k : Int)) (-(l : Int))).toNat = max k l - k := by omega
  have d2 : (-(l : Int) - min (-(k : Int)) (-(l : Int))).toNat = max k l - l := by omega
  have hp : (0 : Int) < 2 ^ (max k l) := Int.pow_pos (by decide)
  unfold Datum.order
  simp only [d1, d2]
  rw [signed_whole _ a k _ (fun _ => rfl), signed_whole _ b l _ (fun _ => rfl), show k + (max k l - k) = max k l by omega, show l + (max k l - l) = max k l by omega]
  congr 1
  rcases Int.lt_trichotomy a b with h | h | h
  · rw [Int.compare_eq_lt.2 h, Int.compare_eq_lt.2 (Int.mul_lt_mul_of_pos_right h hp)]
  · rw [h]
    rw [Int.compare_eq_eq.2 rfl, Int.compare_eq_eq.2 rfl]
  · rw [Int.compare_eq_gt.2 h, Int.compare_eq_gt.2 (Int.mul_lt_mul_of_pos_right h hp)]
end Go.Proofs.Ybulkyyu.CF
