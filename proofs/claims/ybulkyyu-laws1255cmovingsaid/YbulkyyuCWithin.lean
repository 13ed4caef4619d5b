/- within at whole numbers: the exact test. -/
import Derived.Test.YbulkyyuCCellOf
namespace Go.Proofs.Ybulkyyu.CF
open Ieee Go.RowKit

theorem two (w : World) (o1 o2 : Obj) : ((w.alloc o1).alloc o2).heap[w.heap.size]? = some o1 ∧ ((w.alloc o1).alloc o2).heap[w.heap.size + 1]? = some o2 ∧ w.grownBy ((w.alloc o1).alloc o2) none := by
  have s1 : (w.alloc o1).heap.size = w.heap.size + 1 := World.size_alloc ..
  have s2 : ((w.alloc o1).alloc o2).heap.size = w.heap.size + 1 + 1 := by rw [World.size_alloc, s1]
  have n1 := heap_alloc_new w o1
  have n2 := heap_alloc_new (w.alloc o1) o2
  rw [s1] at n2
  refine ⟨?_, n2, ⟨rfl, rfl, rfl, by omega, fun k hk _ => ?_⟩⟩
  · rw [heap_alloc_old (w.alloc o1) o2 (by omega), n1]
  · rw [heap_alloc_old (w.alloc o1) o2 (by omega), heap_alloc_old w o1 hk]

theorem sq_le {a : Int} (h : a.natAbs ≤ 1000) : 0 ≤ a * a ∧ a * a ≤ 1000000 := by
  have h1 : a * a = ((a.natAbs * a.natAbs : Nat) : Int) := Int.natAbs_mul_self.symm
  have h2 : a.natAbs * a.natAbs ≤ 1000 * 1000 := Nat.mul_le_mul h h
  omega

theorem le_fI (a b : Int) (ha : a.natAbs < 2 ^ 53) (hb : b.natAbs < 2 ^ 53) : decide (a ≤ b) = (double.order (fI a) (fI b) == some .lt || double.order (fI a) (fI b) == some .eq) := by
  rw [order_fI a b ha hb]
  rcases Int.lt_trichotomy a b with h | h | h
  · rw [Int.compare_eq_lt.2 h, decide_eq_true (by omega)]; rfl
  · rw [Int.compare_eq_eq.2 h, decide_eq_true (by omega)]; rfl
  · rw [Int.compare_eq_gt.2 h, decide_eq_false (by omega)]; rfl

/-- The exact test. -/
def near (ax ay bx by_ r : Int) : Bool := decide ((ax - bx) * (ax - bx) + (ay - by_) * (ay - by_) ≤ r * r)

set_option maxRecDepth 100000 in
set_option maxHeartbeats 4000000 in
theorem within_any (ax ay bx by_ r : Int) (w : World) (h1 : (ax - bx).natAbs ≤ 1000) (h2 : (ay - by_).natAbs ≤ 1000) (h3 : r.natAbs ≤ 1000) (k1 : ax.natAbs ≤ 1000) (k2 : ay.natAbs ≤ 1000) (k3 : bx.natAbs ≤ 1000) (k4 : by_.natAbs ≤ 1000) :
    Calls Yba.prog 41 #[.agg #[.float .f64 (fI ax), .float .f64 (fI ay)], .agg #[.float .f64 (fI bx), .float .f64 (fI by_)], .float .f64 (fI r)] w fun e w' => e = .returned (.bool (near ax ay bx by_ r)) ∧ w.grownBy w' none := by
  obtain ⟨b1, b2, hg⟩ := two w (.cells #[.float .f64 (fI ax), .float .f64 (fI ay)] 100 (0, 0)) (.cells #[.float .f64 (fI bx), .float .f64 (fI by_)] 100 (0, 0))
  have q1 := sq_le h1
  have q2 := sq_le h2
  have q3 := sq_le h3
  have s1 : ∀ t w, (binOp .sub t (.float .f64 (fI ax)) (.float .f64 (fI bx))).run Yba.prog w = .ok (.float .f64 (fI (ax - bx))) w := fun t w => run_float_arith w .sub t .f64 _ _ _ (sub_fI ax bx (by omega) (by omega) (by omega))
  have s2 : ∀ t w, (binOp .sub t (.float .f64 (fI ay)) (.float .f64 (fI by_))).run Yba.prog w = .ok (.float .f64 (fI (ay - by_))) w := fun t w => run_float_arith w .sub t .f64 _ _ _ (sub_fI ay by_ (by omega) (by omega) (by omega))
  have m1 : ∀ t w, (binOp .mul t (.float .f64 (fI (ax - bx))) (.float .f64 (fI (ax - bx)))).run Yba.prog w = .ok (.float .f64 (fI ((ax - bx) * (ax - bx)))) w := fun t w => run_float_arith w .mul t .f64 _ _ _ (mul_fI _ _ (by omega) (by omega) (by omega) (fun _ => rfl))
  have m2 : ∀ t w, (binOp .mul t (.float .f64 (fI (ay - by_))) (.float .f64 (fI (ay - by_)))).run Yba.prog w = .ok (.float .f64 (fI ((ay - by_) * (ay - by_)))) w := fun t w => run_float_arith w .mul t .f64 _ _ _ (mul_fI _ _ (by omega) (by omega) (by omega) (fun _ => rfl))
  have m3 : ∀ t w, (binOp .mul t (.float .f64 (fI r)) (.float .f64 (fI r))).run Yba.prog w = .ok (.float .f64 (fI (r * r))) w := fun t w => run_float_arith w .mul t .f64 _ _ _ (mul_fI _ _ (by omega) (by omega) (by omega) (fun _ => rfl))
  have a1 : ∀ t w, (binOp .add t (.float .f64 (fI ((ax - bx) * (ax - bx)))) (.float .f64 (fI ((ay - by_) * (ay - by_))))).run Yba.prog w = .ok (.float .f64 (fI ((ax - bx) * (ax - bx) + (ay - by_) * (ay - by_)))) w := fun t w => run_float_arith w .add t .f64 _ _ _ (add_fI _ _ (by omega) (by omega) (by omega))
  have l1 : Hid (near ax ay bx by_ r = (FloatKind.f64.format.order (fI ((ax - bx) * (ax - bx) + (ay - by_) * (ay - by_))) (fI (r * r)) == some Ordering.lt || FloatKind.f64.format.order (fI ((ax - bx) * (ax - bx) + (ay - by_) * (ay - by_))) (fI (r * r)) == some Ordering.eq)) := le_fI _ _ (by omega) (by omega)
  clear q1 q2 q3 h1 h2 h3
  generalize near ax ay bx by_ r = res at l1 ⊢
  generalize fI ((ax - bx) * (ax - bx) + (ay - by_) * (ay - by_)) = F1 at a1 l1
  generalize fI ((ax - bx) * (ax - bx)) = F2 at a1 m1
  generalize fI ((ay - by_) * (ay - by_)) = F3 at a1 m2
  generalize fI (r * r) = F4 at m3 l1
  generalize fI (ax - bx) = F5 at m1 s1
  generalize fI (ay - by_) = F6 at m2 s2
  generalize fI ax = AX at *
  generalize fI ay = AY at *
  generalize fI bx = BX at *
  generalize fI by_ = BY at *
  generalize fI r = R at *
  go_enter Yba.func41, Yba.ntmps41
  go_wp2
  obtain ⟨W, hW⟩ : ∃ W, W = ((w.alloc (Obj.cells #[Value.float FloatKind.f64 AX, Value.float FloatKind.f64 AY] 100)).alloc
          (Obj.cells #[Value.float FloatKind.f64 BX, Value.float FloatKind.f64 BY] 100)) := ⟨_, rfl⟩
  rw [← hW] at b1 b2 hg ⊢
  clear hW
  have c1 : W.cell? ⟨w.heap.size, 0, none⟩ = some (.float .f64 AX) := by rw [cell_of_row W _ 0 _ _ _ b1]; rfl
  have c2 : W.cell? ⟨w.heap.size, 1, none⟩ = some (.float .f64 AY) := by rw [cell_of_row W _ 1 _ _ _ b1]; rfl
  have c3 : W.cell? ⟨w.heap.size + 1, 0, none⟩ = some (.float .f64 BX) := by rw [cell_of_row W _ 0 _ _ _ b2]; rfl
  have c4 : W.cell? ⟨w.heap.size + 1, 1, none⟩ = some (.float .f64 BY) := by rw [cell_of_row W _ 1 _ _ _ b2]; rfl
  go_region
  go_wp2
  go_ret
  exact ⟨by rw [l1.out]; rfl, grown_draw hg 1⟩
end Go.Proofs.Ybulkyyu.CF
