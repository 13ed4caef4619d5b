/-
  No cell of these rows narrows 'for every input' (looked for: loops, veiled, ifaces, maps, wideKeys, modest, calm, conditions, laid).
  DERIVED. THE GIVEN ROWS OF THIS SEAT. 6 by the template 'for every input the law returns true; each argument reads behind the call as it read before'; 0 by the template 'total and deterministic' (their statements: YbulkyyuTotals.lean).
  GIVEN WITH THE SEED: the statements are not yours to turn. If you find one false, say at which input.
  Laid BY PROGRAM, IN A SANDBOX (cutbox-rows.mjs): the forced cells as the released guide's own fill.sh prints them over the translation 2a935994d99008f7… (all of the seat's roots in one cut). By AI agents, Wed Nov 11 2026. No macro, syntax, notation, axiom, sorry.
-/
import Derived.Test.YbulkyyuChecked
import GoSem.Claim
import GoSem.ClaimJoined
import GoSem.ClaimMapViews
import Derived.JoinedTies
import Derived.KernelRfl
namespace Go.Proofs.Ybulkyyu
/- THE CELL 'sum', in the pinned program and in every row, IS THE sha256 OF THE DUMP (.gsa) THAT YbulkyyuProg.lean LOADS. Nothing in Lean hashes anything: it is a label: what it is worth is what the hold of that sum in a sandbox is worth. -/
noncomputable def Yba.pinned : Pinned := { name := "ybulkyyu", sum := "2a935994d99008f7d415957a7c22d0b7555eca53e53b6ec34b45c01a47369eda", checked := Yba.checked }
namespace Rows
def none {H : Type} : Left H := { results := [], args := [] }

/-- 'driftcast.LawS1255AResets': WHATEVER THE INPUT: true; the input reads as it did. -/
def lawS1255AResetsSpec : ChangeSpec := { name := "lawS1255AResets", fn := fun _ => fun
  | [d1, d2, d3, d4, d5, d6] => { results := [.lit (.bool true)], args := [d1, d2, d3, d4, d5, d6] }
  | _ => none }
def lawS1255AResetsRow : OpenClaim := { program := "ybulkyyu", sum := "2a935994d99008f7d415957a7c22d0b7555eca53e53b6ec34b45c01a47369eda", func := "example.com/driftcast/driftcast.LawS1255AResets", spec := "lawS1255AResets", plainKeys := false, apart := false }
def LawS1255AResetsSaid : Prop := lawS1255AResetsRow.holds Yba.pinned (OpenSpec.ofChange lawS1255AResetsSpec)

/-- ITS FALSE NEIGHBOUR: 'it returns false'. Refute it at one input. -/
def lawS1255AResetsWrong : ChangeSpec := { name := "lawS1255AResets", fn := fun _ => fun
  | [d1, d2, d3, d4, d5, d6] => { results := [.lit (.bool false)], args := [d1, d2, d3, d4, d5, d6] }
  | _ => none }
def LawS1255AResetsWrongFalsely : Prop := lawS1255AResetsRow.holds Yba.pinned (OpenSpec.ofChange lawS1255AResetsWrong)

/-- 'driftcast.LawS1255AAfterList': WHATEVER THE INPUT: true; the input reads as it did. -/
def lawS1255AAfterListSpec : ChangeSpec := { name := "lawS1255AAfterList", fn := fun _ => fun
  | [d1, d2, d3] => { results := [.lit (.bool true)], args := [d1, d2, d3] }
  | _ => none }
def lawS1255AAfterListRow : OpenClaim := { program := "ybulkyyu", sum := "2a935994d99008f7d415957a7c22d0b7555eca53e53b6ec34b45c01a47369eda", func := "example.com/driftcast/driftcast.LawS1255AAfterList", spec := "lawS1255AAfterList", unfollowed := true, recurses := true, plainKeys := false, apart := false }
def LawS1255AAfterListSaid : Prop := lawS1255AAfterListRow.holds Yba.pinned (OpenSpec.ofChange lawS1255AAfterListSpec)

/-- ITS FALSE NEIGHBOUR: 'it returns false'. Refute it at one input. -/
def lawS1255AAfterListWrong : ChangeSpec := { name := "lawS1255AAfterList", fn := fun _ => fun
  | [d1, d2, d3] => { results := [.lit (.bool false)], args := [d1, d2, d3] }
  | _ => none }
def LawS1255AAfterListWrongFalsely : Prop := lawS1255AAfterListRow.holds Yba.pinned (OpenSpec.ofChange lawS1255AAfterListWrong)

/-- 'driftcast.LawS1255BModel': WHATEVER THE INPUT: true; the input reads as it did. -/
def lawS1255BModelSpec : ChangeSpec := { name := "lawS1255BModel", fn := fun _ => fun
  | [d1, d2, d3] => { results := [.lit (.bool true)], args := [d1, d2, d3] }
  | _ => none }
def lawS1255BModelRow : OpenClaim := { program := "ybulkyyu", sum := "2a935994d99008f7d415957a7c22d0b7555eca53e53b6ec34b45c01a47369eda", func := "example.com/driftcast/driftcast.LawS1255BModel", spec := "lawS1255BModel", plainKeys := false, apart := false }
def LawS1255BModelSaid : Prop := lawS1255BModelRow.holds Yba.pinned (OpenSpec.ofChange lawS1255BModelSpec)

/-- ITS FALSE NEIGHBOUR: 'it returns false'. Refute it at one input. -/
def lawS1255BModelWrong : ChangeSpec := { name := "lawS1255BModel", fn := fun _ => fun
  | [d1, d2, d3] => { results := [.lit (.bool false)], args := [d1, d2, d3] }
  | _ => none }
def LawS1255BModelWrongFalsely : Prop := lawS1255BModelRow.holds Yba.pinned (OpenSpec.ofChange lawS1255BModelWrong)

/-- 'driftcast.LawS1255BRoundTrip': WHATEVER THE INPUT: true; the input reads as it did. -/
def lawS1255BRoundTripSpec : ChangeSpec := { name := "lawS1255BRoundTrip", fn := fun _ => fun
  | [d1, d2] => { results := [.lit (.bool true)], args := [d1, d2] }
  | _ => none }
def lawS1255BRoundTripRow : OpenClaim := { program := "ybulkyyu", sum := "2a935994d99008f7d415957a7c22d0b7555eca53e53b6ec34b45c01a47369eda", func := "example.com/driftcast/driftcast.LawS1255BRoundTrip", spec := "lawS1255BRoundTrip", plainKeys := false, apart := false }
def LawS1255BRoundTripSaid : Prop := lawS1255BRoundTripRow.holds Yba.pinned (OpenSpec.ofChange lawS1255BRoundTripSpec)

/-- ITS FALSE NEIGHBOUR: 'it returns false'. Refute it at one input. -/
def lawS1255BRoundTripWrong : ChangeSpec := { name := "lawS1255BRoundTrip", fn := fun _ => fun
  | [d1, d2] => { results := [.lit (.bool false)], args := [d1, d2] }
  | _ => none }
def LawS1255BRoundTripWrongFalsely : Prop := lawS1255BRoundTripRow.holds Yba.pinned (OpenSpec.ofChange lawS1255BRoundTripWrong)

/-- 'sim.LawS1255CStatic': WHATEVER THE INPUT: true; the input reads as it did. -/
def lawS1255CStaticSpec : ChangeSpec := { name := "lawS1255CStatic", fn := fun _ => fun
  | [d1, d2, d3] => { results := [.lit (.bool true)], args := [d1, d2, d3] }
  | _ => none }
def lawS1255CStaticRow : OpenClaim := { program := "ybulkyyu", sum := "2a935994d99008f7d415957a7c22d0b7555eca53e53b6ec34b45c01a47369eda", func := "example.com/driftcast/driftcast/sim.LawS1255CStatic", spec := "lawS1255CStatic", inPlace := ["math.Float64frombits", "math.sqrt", "math.archCeil", "math.archFloor", "math.Float64bits", "math.archTrunc"], unfollowed := true, recurses := true, plainKeys := false, apart := false }
def LawS1255CStaticSaid : Prop := lawS1255CStaticRow.holds Yba.pinned (OpenSpec.ofChange lawS1255CStaticSpec)

/-- ITS FALSE NEIGHBOUR: 'it returns false'. Refute it at one input. -/
def lawS1255CStaticWrong : ChangeSpec := { name := "lawS1255CStatic", fn := fun _ => fun
  | [d1, d2, d3] => { results := [.lit (.bool false)], args := [d1, d2, d3] }
  | _ => none }
def LawS1255CStaticWrongFalsely : Prop := lawS1255CStaticRow.holds Yba.pinned (OpenSpec.ofChange lawS1255CStaticWrong)

/-- 'sim.LawS1255CMoving': WHATEVER THE INPUT: true; the input reads as it did. -/
def lawS1255CMovingSpec : ChangeSpec := { name := "lawS1255CMoving", fn := fun _ => fun
  | [d1, d2, d3] => { results := [.lit (.bool true)], args := [d1, d2, d3] }
  | _ => none }
def lawS1255CMovingRow : OpenClaim := { program := "ybulkyyu", sum := "2a935994d99008f7d415957a7c22d0b7555eca53e53b6ec34b45c01a47369eda", func := "example.com/driftcast/driftcast/sim.LawS1255CMoving", spec := "lawS1255CMoving", inPlace := ["math.Float64frombits", "math.sqrt", "math.archCeil", "math.archFloor", "math.Float64bits", "math.archTrunc"], unfollowed := true, recurses := true, plainKeys := false, apart := false }
def LawS1255CMovingSaid : Prop := lawS1255CMovingRow.holds Yba.pinned (OpenSpec.ofChange lawS1255CMovingSpec)

/-- ITS FALSE NEIGHBOUR: 'it returns false'. Refute it at one input. -/
def lawS1255CMovingWrong : ChangeSpec := { name := "lawS1255CMoving", fn := fun _ => fun
  | [d1, d2, d3] => { results := [.lit (.bool false)], args := [d1, d2, d3] }
  | _ => none }
def LawS1255CMovingWrongFalsely : Prop := lawS1255CMovingRow.holds Yba.pinned (OpenSpec.ofChange lawS1255CMovingWrong)

end Rows
end Go.Proofs.Ybulkyyu
