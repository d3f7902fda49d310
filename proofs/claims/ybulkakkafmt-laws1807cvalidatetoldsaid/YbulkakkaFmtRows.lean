/-
  No cell of these rows narrows 'for every input' (looked for: loops, veiled, ifaces, maps, wideKeys, modest, calm, conditions, laid).
  DERIVED. THE GIVEN ROWS OF THIS SEAT. 2 by the template 'for every input the law returns true; each argument reads behind the call as it read before'; 0 by the template 'total and deterministic' (their statements: YbulkakkaFmtTotals.lean).
  GIVEN WITH THE SEED: the statements are not yours to turn. If you find one false, say at which input.
  Laid BY PROGRAM, IN A SANDBOX (cutbox-rows.mjs): the forced cells as the released guide's own fill.sh prints them over the translation 90410c5c618570f4… (all of the seat's roots in one cut). By AI agents, Wed Nov 11 2026. No macro, syntax, notation, axiom, sorry.
-/
import Derived.Test.YbulkakkaFmtChecked
import GoSem.Claim
import GoSem.ClaimJoined
import GoSem.ClaimMapViews
import Derived.JoinedTies
import Derived.KernelRfl
namespace Go.Proofs.YbulkakkaFmt
/- THE CELL 'sum', in the pinned program and in every row, IS THE sha256 OF THE DUMP (.gsa) THAT YbulkakkaFmtProg.lean LOADS. Nothing in Lean hashes anything: it is a label: what it is worth is what the hold of that sum in a sandbox is worth. -/
noncomputable def Ybaf.pinned : Pinned := { name := "ybulkakkafmt", sum := "90410c5c618570f4d17e6f0f97e0edadaad1a3c1ce52dc8a199b726feac40758", checked := Ybaf.checked }
namespace Rows
def none {H : Type} : Left H := { results := [], args := [] }

/-- 'pico-access.LawS1807CCount': WHATEVER THE INPUT: true; the input reads as it did. -/
def lawS1807CCountSpec : ChangeSpec := { name := "lawS1807CCount", fn := fun _ => fun
  | [d] => { results := [.lit (.bool true)], args := [d] }
  | _ => none }
def lawS1807CCountRow : OpenClaim := { program := "ybulkakkafmt", sum := "90410c5c618570f4d17e6f0f97e0edadaad1a3c1ce52dc8a199b726feac40758", func := "example.com/pico-access/pico-access.LawS1807CCount", spec := "lawS1807CCount", stops := ["fmt.Sprintf", "fmt.errorf, its operands' methods called"], inPlace := ["internal/abi.NoEscape", "internal/bytealg.MakeNoZero", "fmt.Sprintf", "fmt.errorf"], unfollowed := true, recurses := true, apart := false }
/-- NO THEOREM (fmt's text is open here; it may be false): for the released tool's asking of the row's closed facts alone. THE STATEMENT IS 'LawS1807CCountToldSaid' (YbulkakkaFmtCards.lean). -/
def LawS1807CCountFormAsk : Prop := lawS1807CCountRow.holds Ybaf.pinned (OpenSpec.ofChange lawS1807CCountSpec)

/-- ITS FALSE NEIGHBOUR: 'it returns false'. Refute it at one input. -/
def lawS1807CCountWrong : ChangeSpec := { name := "lawS1807CCount", fn := fun _ => fun
  | [d] => { results := [.lit (.bool false)], args := [d] }
  | _ => none }
def LawS1807CCountWrongFormAsk : Prop := lawS1807CCountRow.holds Ybaf.pinned (OpenSpec.ofChange lawS1807CCountWrong)

/-- 'pico-access.LawS1807CValidate': WHATEVER THE INPUT: true; the input reads as it did. -/
def lawS1807CValidateSpec : ChangeSpec := { name := "lawS1807CValidate", fn := fun _ => fun
  | [d] => { results := [.lit (.bool true)], args := [d] }
  | _ => none }
def lawS1807CValidateRow : OpenClaim := { program := "ybulkakkafmt", sum := "90410c5c618570f4d17e6f0f97e0edadaad1a3c1ce52dc8a199b726feac40758", func := "example.com/pico-access/pico-access.LawS1807CValidate", spec := "lawS1807CValidate", stops := ["fmt.Sprintf", "fmt.errorf, its operands' methods called"], inPlace := ["internal/abi.NoEscape", "internal/bytealg.MakeNoZero", "fmt.Sprintf", "fmt.errorf"], unfollowed := true, recurses := true, apart := false }
/-- NO THEOREM (fmt's text is open here; it may be false): for the released tool's asking of the row's closed facts alone. THE STATEMENT IS 'LawS1807CValidateToldSaid' (YbulkakkaFmtCards.lean). -/
def LawS1807CValidateFormAsk : Prop := lawS1807CValidateRow.holds Ybaf.pinned (OpenSpec.ofChange lawS1807CValidateSpec)

/-- ITS FALSE NEIGHBOUR: 'it returns false'. Refute it at one input. -/
def lawS1807CValidateWrong : ChangeSpec := { name := "lawS1807CValidate", fn := fun _ => fun
  | [d] => { results := [.lit (.bool false)], args := [d] }
  | _ => none }
def LawS1807CValidateWrongFormAsk : Prop := lawS1807CValidateRow.holds Ybaf.pinned (OpenSpec.ofChange lawS1807CValidateWrong)

end Rows
end Go.Proofs.YbulkakkaFmt
