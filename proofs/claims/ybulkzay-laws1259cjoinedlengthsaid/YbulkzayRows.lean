/-
  No cell of these rows narrows 'for every input' (looked for: loops, veiled, ifaces, maps, wideKeys, modest, calm, conditions, laid).
  DERIVED. THE GIVEN ROWS OF THIS SEAT. 2 by the template 'for every input the law returns true; each argument reads behind the call as it read before'; 0 by the template 'total and deterministic' (their statements: YbulkzayTotals.lean).
  GIVEN WITH THE SEED: the statements are not yours to turn. If you find one false, say at which input.
  Laid BY PROGRAM, IN A SANDBOX (cutbox-rows.mjs): the forced cells as the released guide's own fill.sh prints them over the translation 6befe30559470274… (all of the seat's roots in one cut). By AI agents, Wed Nov 11 2026. No macro, syntax, notation, axiom, sorry.
-/
import Derived.Test.YbulkzayChecked
import GoSem.Claim
import GoSem.ClaimJoined
import GoSem.ClaimMapViews
import Derived.JoinedTies
import Derived.KernelRfl
namespace Go.Proofs.Ybulkzay
/- THE CELL 'sum', in the pinned program and in every row, IS THE sha256 OF THE DUMP (.gsa) THAT YbulkzayProg.lean LOADS. Nothing in Lean hashes anything: it is a label: what it is worth is what the hold of that sum in a sandbox is worth. -/
noncomputable def Yba.pinned : Pinned := { name := "ybulkzay", sum := "6befe30559470274c00d7e3cac1500fd56175540e211ccf1f1f149cb30709469", checked := Yba.checked }
namespace Rows
def none {H : Type} : Left H := { results := [], args := [] }

/-- 'wireconv.LawS1259CJoinedLength': WHATEVER THE INPUT: true; the input reads as it did. -/
def lawS1259CJoinedLengthSpec : ChangeSpec := { name := "lawS1259CJoinedLength", fn := fun _ => fun
  | [d] => { results := [.lit (.bool true)], args := [d] }
  | _ => none }
def lawS1259CJoinedLengthRow : OpenClaim := { program := "ybulkzay", sum := "6befe30559470274c00d7e3cac1500fd56175540e211ccf1f1f149cb30709469", func := "example.com/wireconv/wireconv.LawS1259CJoinedLength", spec := "lawS1259CJoinedLength", apart := false }
def LawS1259CJoinedLengthSaid : Prop := lawS1259CJoinedLengthRow.holds Yba.pinned (OpenSpec.ofChange lawS1259CJoinedLengthSpec)

/-- ITS FALSE NEIGHBOUR: 'it returns false'. Refute it at one input. -/
def lawS1259CJoinedLengthWrong : ChangeSpec := { name := "lawS1259CJoinedLength", fn := fun _ => fun
  | [d] => { results := [.lit (.bool false)], args := [d] }
  | _ => none }
def LawS1259CJoinedLengthWrongFalsely : Prop := lawS1259CJoinedLengthRow.holds Yba.pinned (OpenSpec.ofChange lawS1259CJoinedLengthWrong)

/-- 'wireconv.LawS1259CAppendOne': WHATEVER THE INPUT: true; the input reads as it did. -/
def lawS1259CAppendOneSpec : ChangeSpec := { name := "lawS1259CAppendOne", fn := fun _ => fun
  | [d1, d2] => { results := [.lit (.bool true)], args := [d1, d2] }
  | _ => none }
def lawS1259CAppendOneRow : OpenClaim := { program := "ybulkzay", sum := "6befe30559470274c00d7e3cac1500fd56175540e211ccf1f1f149cb30709469", func := "example.com/wireconv/wireconv.LawS1259CAppendOne", spec := "lawS1259CAppendOne", apart := false }
def LawS1259CAppendOneSaid : Prop := lawS1259CAppendOneRow.holds Yba.pinned (OpenSpec.ofChange lawS1259CAppendOneSpec)

/-- ITS FALSE NEIGHBOUR: 'it returns false'. Refute it at one input. -/
def lawS1259CAppendOneWrong : ChangeSpec := { name := "lawS1259CAppendOne", fn := fun _ => fun
  | [d1, d2] => { results := [.lit (.bool false)], args := [d1, d2] }
  | _ => none }
def LawS1259CAppendOneWrongFalsely : Prop := lawS1259CAppendOneRow.holds Yba.pinned (OpenSpec.ofChange lawS1259CAppendOneWrong)

end Rows
end Go.Proofs.Ybulkzay
