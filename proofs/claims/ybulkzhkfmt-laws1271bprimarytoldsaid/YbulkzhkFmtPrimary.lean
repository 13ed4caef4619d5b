/- requestName and LawS1271BPrimary walked, fmt's text left open. -/
import Derived.Test.YbulkzhkFmtProg
import Derived.Stop.CallBack
import Derived.Stop.IfaceNil
import GoSem.ClaimData
import Derived.WalkKit
import Derived.WalkSpells
import Derived.Below
namespace Go.Proofs.YbulkzhkFmt.Primary
open Go.RowKit Go.Extern.Stop Go.Stop Go.Extern

theorem call8 (args : Array Value) (w : World) : (callFunc 8 args).run Ybaf.prog w = ((FmtStop.sprintf #[9, 103] #[9] args).run Ybaf.prog w).andThen fun v w' => .ok (.value v) w' :=
  run_callFunc_extern Ybaf.func8 (by kernel_rfl) (by kernel_rfl) (by kernel_rfl) (by kernel_rfl) args w
theorem guardR (name : String) (w : World) : (FmtStop.guard name).run Ybaf.prog w = .ok () w := by kernel_rfl
theorem fmtA : FmtStop.printed? ⟨#[100, 101, 112, 101, 110, 100, 101, 110, 116, 32, 37, 100]⟩ 1 = some [(0, 100, false)] := by kernel_rfl
theorem fmtAr (w : World) : (FmtDoors.printed ⟨#[100, 101, 112, 101, 110, 100, 101, 110, 116, 32, 37, 100]⟩ 1).run Ybaf.prog w = .ok [(0, 100, false)] w := by kernel_rfl
def shape3 : List UInt8 := [5, 3, 0, 0, 0, 0, 0, 0, 0, 105, 110, 116]
theorem op3_100 (name : String) (x : Int) (w : World) : (FmtStop.operand name false 100 false (.iface 3 (.int .i64 x))).run Ybaf.prog w = .ok (shape3, Go.Extern.Stop.digits 8 (x % 2 ^ 64).toNat) w := by kernel_rfl
attribute [local go_sem] call8 guardR fmtA fmtAr op3_100

theorem name_zero (w : World) : Calls Ybaf.prog 5 #[.int .i64 0] w fun e w' => e = .returned (.string ⟨#[112, 114, 105, 109, 97, 114, 121, 32, 114, 101, 113, 117, 101, 115, 116]⟩) ∧ w' = w := by
  go_enter Ybaf.func5, Ybaf.ntmps5
  go_wp2
  go_ret
  exact ⟨rfl, rfl⟩

set_option maxHeartbeats 400000 in
theorem name_other (F : Interp) (i : Int) (hi : (i == 0) = false) (w : World) (hF : F.answers w.tape) : Calls Ybaf.prog 5 #[.int .i64 i] w fun e w' => ∃ s, e = .returned (.string s) ∧ Below w.heap.size w w' := by
  have hF' := answers_open hF
  go_enter Ybaf.func5, Ybaf.ntmps5
  go_wp2
  go_ret
  exact ⟨_, rfl, ((Below.refl _ _).alloc (Nat.le_refl _) _).drew⟩

theorem law_any (F : Interp) (i : Int) (w : World) (hF : F.answers w.tape) : Calls Ybaf.prog 3 #[.int .i64 i] w fun e w' => e = .returned (.bool true) ∧ Below w.heap.size w w' := by
  by_cases hi : i = 0
  · subst hi
    go_enter Ybaf.func3, Ybaf.ntmps3
    go_wp2_with (go_at_call 5; refine (name_zero _).mono ?_; rintro e w' ⟨rfl, rfl⟩)
    go_ret
    exact ⟨rfl, Below.refl _ _⟩
  · have hi' : (i == 0) = false := beq_eq_false_iff_ne.2 hi
    clear hi
    have c := name_other F i hi' w hF
    go_enter Ybaf.func3, Ybaf.ntmps3
    go_wp2_with fail
    refine c.mono ?_
    rintro e w1 ⟨s, rfl, hb⟩
    go_wp2
    go_ret
    exact ⟨rfl, hb⟩
end Go.Proofs.YbulkzhkFmt.Primary
