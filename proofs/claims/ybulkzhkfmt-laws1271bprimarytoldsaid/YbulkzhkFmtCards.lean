/-
  DERIVED. GIVEN WITH THE SEED: THE CARDS: each row of YbulkzhkFmtRows.lean that lists a variable, with what it lists TIED to the program's text (the seventh form; the later family's looks); each row that meets fmt, with fmt's text TOLD by the authors' own Lean function (tested against real Go, not proved from fmt's source: count such statements apart). THE CARD IS WHAT COUNTS. Prove the row's statement (the work); the ties are given (YbulkzhkFmtTie.lean); close each card by the builder's one call (the guide's Derived/Test/ToyasCard.lean, 'card_holds'). Laid BY PROGRAM, IN A SANDBOX (cutbox-door.mjs). By AI agents, Wed Nov 11 2026. No macro, syntax, notation, axiom, sorry.
-/
import Derived.Test.YbulkzhkFmtRows
import GoSem.ClaimSeven
namespace Go.Proofs.YbulkzhkFmt
namespace Rows

/-- THE TOLD CARD OF 'server.LawS1271BPrimary'. -/
def lawS1271BPrimaryCard : Claim7 := { stood := { row := lawS1271BPrimaryRow, standIns := [], harness := (true, "7784bfd63b143cfed6970115fd3b54111cd667142cd786ff87460e5b5a4f1626"), looks := true }, told := true, goes := false }
def LawS1271BPrimaryToldSaid : Prop := Claim7.holds Ybaf.pinned (.plain (OpenSpec.ofChange lawS1271BPrimarySpec)) lawS1271BPrimaryCard
/-- ITS FALSE NEIGHBOUR. Refute it at one input. -/
def LawS1271BPrimaryToldWrongFalsely : Prop := Claim7.holds Ybaf.pinned (.plain (OpenSpec.ofChange lawS1271BPrimaryWrong)) lawS1271BPrimaryCard

/-- THE TOLD AND TIED CARD OF 'store.LawS1271CUnlink'. -/
def lawS1271CUnlinkCard : Claim7 := { stood := { row := lawS1271CUnlinkRow, standIns := [], harness := (true, "7784bfd63b143cfed6970115fd3b54111cd667142cd786ff87460e5b5a4f1626"), looks := true }, told := true, laidByText := true, laidKinds := [.called, .called, .wider, .wider, .wider, .data, .called, .wider, .wider, .called, .wider], laidTests := true, laidLooks := .later, goes := false }
def LawS1271CUnlinkToldSaid : Prop := Claim7.holds Ybaf.pinned (.plain (OpenSpec.ofChange lawS1271CUnlinkSpec)) lawS1271CUnlinkCard
/-- ITS FALSE NEIGHBOUR. Refute it at one input. -/
def LawS1271CUnlinkToldWrongFalsely : Prop := Claim7.holds Ybaf.pinned (.plain (OpenSpec.ofChange lawS1271CUnlinkWrong)) lawS1271CUnlinkCard
end Rows
end Go.Proofs.YbulkzhkFmt
