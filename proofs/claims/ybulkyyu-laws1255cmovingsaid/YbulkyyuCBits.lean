/- bits.Len off the shelf; nextPowerOfTwo; xorshift.Next. -/
import Derived.Shelf.Lay
import Derived.Shelf.LaySoft
import Derived.Shelf.Small.Bits
import Derived.Shelf.Strconv.Itoa0
import Derived.Ground.Names2Prog
import Derived.Test.YbulkyyuCPivot
namespace Go.Proofs
open Go.Shelf
shelf_lay Lays.n125 Nm 125 at Yba as Yba.lays125
theorem Yba.bits_Len (x : Int) (w : World) (h0 : 0 ≤ x) (h1 : x ≤ 18446744073709551615) :
    Calls Yba.prog 66 #[.int .u64 x] w fun e w' => e = .returned (.int .i64 (Lib.bitLen x.toNat)) ∧ w' = w := Any.bits_Len Yba.lays125 x w h0 h1
end Go.Proofs
namespace Go.Proofs.Ybulkyyu.CSort
open Go.RowKit Go.Sort

theorem bitLen_bound : ∀ n : Nat, n ≤ 4096 → n < 2 ^ Lib.bitLen n ∧ (0 < n → 2 ^ Lib.bitLen n ≤ 2 * n) ∧ Lib.bitLen n ≤ 13 := by
  have key : ∀ m n : Nat, n ≤ m → n ≤ 4096 → n < 2 ^ Lib.bitLen n ∧ (0 < n → 2 ^ Lib.bitLen n ≤ 2 * n) := by
    intro m
    induction m with
    | zero => intro n hn _; obtain rfl : n = 0 := by omega
              exact ⟨Nat.pos_of_ne_zero (by simp), fun h => absurd h (by omega)⟩
    | succ m ih =>
      intro n hn h4
      by_cases h0 : n = 0
      · subst h0; exact ⟨Nat.pos_of_ne_zero (by simp), fun h => absurd h (by omega)⟩
      · have h := ih (n / 2) (by omega) (by omega)
        rw [Lib.bitLen_half n h0 (by omega), Nat.pow_add]
        refine ⟨by omega, fun _ => ?_⟩
        by_cases h1 : n / 2 = 0
        · have : n = 1 := by omega
          subst this
          decide
        · have := h.2 (by omega); omega
  intro n hn
  refine ⟨(key n n (Nat.le_refl _) hn).1, (key n n (Nat.le_refl _) hn).2, ?_⟩
  by_cases h0 : n = 0
  · subst h0; decide
  · have h := (key n n (Nat.le_refl _) hn).2 (by omega)
    have h2 : 2 ^ Lib.bitLen n ≤ 2 ^ 13 := by omega
    exact (Nat.pow_le_pow_iff_right (by omega)).1 h2

set_option maxRecDepth 100000 in
theorem power_any (n : Nat) (w : World) (hn : n ≤ 4096) :
    Calls Yba.prog 92 #[.int .i64 n] w fun e w' => ∃ p : Nat, e = .returned (.int .u64 p) ∧ w' = w ∧ 0 < p ∧ (0 < n → p ≤ 2 * n) ∧ p ≤ 8192 := by
  obtain ⟨k, hk⟩ : ∃ k, k = Lib.bitLen n := ⟨_, rfl⟩
  have hb := bitLen_bound n hn
  rw [← hk] at hb
  have g1 : (n : Int) ≤ 4096 := by omega
  have g2 : (k : Int) ≤ 13 := by omega
  have g3 : (0 : Int) ≤ (k : Int) := by omega
  have HB : Hid (n < 2 ^ k ∧ (0 < n → 2 ^ k ≤ 2 * n) ∧ k ≤ 13) := hb
  have HK : Hid (k = Lib.bitLen n) := hk
  clear hb hk
  go_enter Yba.func92, Yba.ntmps92
  go_wp2_with fail
  refine (Yba.bits_Len n w (by omega) (by omega)).mono ?_
  rintro e w' ⟨rfl, rfl⟩
  rw [Int.toNat_natCast, ← HK.out]
  go_wp2_with fail
  go_ret
  have hp : (2 : Int) ^ k = ((2 ^ k : Nat) : Int) := by simp
  have hle : 2 ^ k ≤ 2 ^ 13 := Nat.pow_le_pow_right (by omega) HB.out.2.2
  have hpos : 0 < 2 ^ k := Nat.pow_pos (by omega)
  refine ⟨2 ^ k, ?_, rfl, hpos, HB.out.2.1, by omega⟩
  show Ending.returned (Value.int IntKind.u64 (IntKind.u64.wrap (2 ^ k))) = _
  rw [hp]
  have : IntKind.u64.wrap ((2 ^ k : Nat) : Int) = ((2 ^ k : Nat) : Int) := by
    show ((2 ^ k : Nat) : Int) % (2 ^ 64 : Int) = _
    omega
  rw [this]

theorem u64_nat (x : Int) : ∃ y : Nat, IntKind.u64.wrap x = y ∧ y < 18446744073709551616 := by
  refine ⟨(x % 18446744073709551616).toNat, ?_, by omega⟩
  show x % (2 ^ 64 : Int) = _
  omega
theorem bits_u64 (op : BinOp) (x y : Int) : ∃ z : Nat, bits op .u64 x y = z ∧ z < 18446744073709551616 := u64_nat _

set_option maxRecDepth 100000 in
theorem xor_any (h : Nat) (x : Nat) (w : World) (hn : w.heap[h]? = some (.cells #[.int .u64 x] 160 (0, 0))) :
    Calls Yba.prog 93 #[.pointer (some ⟨h, 0, none⟩)] w fun e w' => ∃ y : Nat, e = .returned (.int .u64 y) ∧ y < 18446744073709551616 ∧ w'.heap[h]? = some (.cells #[.int .u64 y] 160 (0, 0)) ∧ w.grownBy w' (some h) := by
  have c3 := (cell_of_row _ h 0 _ _ _ hn).trans (show _ = some (Value.int .u64 x) from rfl)
  have f3 : w.frozen? ⟨h, 0, none⟩ = false := frozen_of_row w h 0 _ _ hn
  obtain ⟨y, hy, hy2⟩ := bits_u64 .xor x (IntKind.u64.wrap ((x : Int) * 8192))
  obtain ⟨z, hz, hz2⟩ := bits_u64 .xor y ((y : Int) / 128)
  obtain ⟨v, hv, hv2⟩ := bits_u64 .xor z (IntKind.u64.wrap ((z : Int) * 131072))
  have hn1 : (w.setCell ⟨h, 0, none⟩ (.int .u64 y)).heap[h]? = some (.cells #[.int .u64 y] 160 (0, 0)) := heap_setCell_same w h 0 _ 160 _ hn
  have hn2 : ((w.setCell ⟨h, 0, none⟩ (.int .u64 y)).setCell ⟨h, 0, none⟩ (.int .u64 z)).heap[h]? = some (.cells #[.int .u64 z] 160 (0, 0)) := heap_setCell_same _ h 0 _ 160 _ hn1
  have hn3 : (((w.setCell ⟨h, 0, none⟩ (.int .u64 y)).setCell ⟨h, 0, none⟩ (.int .u64 z)).setCell ⟨h, 0, none⟩ (.int .u64 v)).heap[h]? = some (.cells #[.int .u64 v] 160 (0, 0)) := heap_setCell_same _ h 0 _ 160 _ hn2
  have hg := grown_setCell (grown_setCell (grown_setCell (grown_refl w (some h)) 0 (.int .u64 y)) 0 (.int .u64 z)) 0 (.int .u64 v)
  have d1 := (cell_of_row _ h 0 _ _ _ hn1).trans (show _ = some (Value.int .u64 y) from rfl)
  have d2 := (cell_of_row _ h 0 _ _ _ hn2).trans (show _ = some (Value.int .u64 z) from rfl)
  have d3 := (cell_of_row _ h 0 _ _ _ hn3).trans (show _ = some (Value.int .u64 v) from rfl)
  have f1 : (w.setCell ⟨h, 0, none⟩ (.int .u64 y)).frozen? ⟨h, 0, none⟩ = false := frozen_of_row _ h 0 _ _ hn1
  have f2 : ((w.setCell ⟨h, 0, none⟩ (.int .u64 y)).setCell ⟨h, 0, none⟩ (.int .u64 z)).frozen? ⟨h, 0, none⟩ = false := frozen_of_row _ h 0 _ _ hn2
  go_enter Yba.func93, Yba.ntmps93
  go_wp2_with fail
  go_region
  go_wp2_with fail
  go_region
  go_wp2_with fail
  go_region
  go_wp2_with fail
  go_ret
  exact ⟨v, rfl, hv2, hn3, grown_drewN hg 3⟩
end Go.Proofs.Ybulkyyu.CSort
