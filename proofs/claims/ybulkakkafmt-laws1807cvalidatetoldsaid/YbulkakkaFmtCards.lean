/-
  DERIVED. GIVEN WITH THE SEED: THE CARDS: each row of YbulkakkaFmtRows.lean that lists a variable, with what it lists TIED to the program's text (the seventh form; the later family's looks); each row that meets fmt, with fmt's text TOLD by the authors' own Lean function (tested against real Go, not proved from fmt's source: count such statements apart). THE CARD IS WHAT COUNTS. Prove the row's statement (the work); the ties are given (YbulkakkaFmtTie.lean); close each card by the builder's one call (the guide's Derived/Test/ToyasCard.lean, 'card_holds'). Laid BY PROGRAM, IN A SANDBOX (cutbox-door.mjs). By AI agents, Wed Nov 11 2026. No macro, syntax, notation, axiom, sorry.
-/
import Derived.Test.YbulkakkaFmtRows
import GoSem.ClaimSeven
namespace Go.Proofs.YbulkakkaFmt
namespace Rows

/-- THE TOLD CARD OF 'pico-access.LawS1807CCount'. -/
def lawS1807CCountCard : Claim7 := { stood := { row := lawS1807CCountRow, standIns := [], harness := (true, "5d1230f20766ef0e9dc958ea4e32612185fca42c231a8bc680d30455fd1e2de4"), looks := true }, told := true, goes := false }
def LawS1807CCountToldSaid : Prop := Claim7.holds Ybaf.pinned (.plain (OpenSpec.ofChange lawS1807CCountSpec)) lawS1807CCountCard
/-- ITS FALSE NEIGHBOUR. Refute it at one input. -/
def LawS1807CCountToldWrongFalsely : Prop := Claim7.holds Ybaf.pinned (.plain (OpenSpec.ofChange lawS1807CCountWrong)) lawS1807CCountCard

/-- THE TOLD CARD OF 'pico-access.LawS1807CValidate'. -/
def lawS1807CValidateCard : Claim7 := { stood := { row := lawS1807CValidateRow, standIns := [], harness := (true, "5d1230f20766ef0e9dc958ea4e32612185fca42c231a8bc680d30455fd1e2de4"), looks := true }, told := true, goes := false }
def LawS1807CValidateToldSaid : Prop := Claim7.holds Ybaf.pinned (.plain (OpenSpec.ofChange lawS1807CValidateSpec)) lawS1807CValidateCard
/-- ITS FALSE NEIGHBOUR. Refute it at one input. -/
def LawS1807CValidateToldWrongFalsely : Prop := Claim7.holds Ybaf.pinned (.plain (OpenSpec.ofChange lawS1807CValidateWrong)) lawS1807CValidateCard
end Rows
end Go.Proofs.YbulkakkaFmt
