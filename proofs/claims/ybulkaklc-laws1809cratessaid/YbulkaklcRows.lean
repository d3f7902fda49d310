/-
  No cell of these rows narrows 'for every input' (looked for: loops, veiled, ifaces, maps, wideKeys, modest, calm, conditions, laid).
  DERIVED. THE GIVEN ROWS OF THIS SEAT. 3 by the template 'for every input the law returns true; each argument reads behind the call as it read before'; 0 by the template 'total and deterministic' (their statements: YbulkaklcTotals.lean).
  GIVEN WITH THE SEED: the statements are not yours to turn. If you find one false, say at which input.
  Laid BY PROGRAM, IN A SANDBOX (cutbox-rows.mjs): the forced cells as the released guide's own fill.sh prints them over the translation c1c1d82c34b511f1… (all of the seat's roots in one cut). By AI agents, Wed Nov 11 2026. No macro, syntax, notation, axiom, sorry.
-/
import Derived.Test.YbulkaklcChecked
import GoSem.Claim
import GoSem.ClaimJoined
import GoSem.ClaimMapViews
import Derived.JoinedTies
import Derived.KernelRfl
namespace Go.Proofs.Ybulkaklc
/- THE CELL 'sum', in the pinned program and in every row, IS THE sha256 OF THE DUMP (.gsa) THAT YbulkaklcProg.lean LOADS. Nothing in Lean hashes anything: it is a label: what it is worth is what the hold of that sum in a sandbox is worth. -/
noncomputable def Yba.pinned : Pinned := { name := "ybulkaklc", sum := "c1c1d82c34b511f1f7ba7017c1eac4584a651d98b4b48301b76d97f8d5302155", checked := Yba.checked }
namespace Rows
def none {H : Type} : Left H := { results := [], args := [] }

/-- 'pacing.LawS1809AClosed': WHATEVER THE INPUT: true; the input reads as it did. -/
def lawS1809AClosedSpec : ChangeSpec := { name := "lawS1809AClosed", fn := fun _ => fun
  | [d1, d2, d3, d4, d5, d6] => { results := [.lit (.bool true)], args := [d1, d2, d3, d4, d5, d6] }
  | _ => none }
def lawS1809AClosedRow : OpenClaim := { program := "ybulkaklc", sum := "c1c1d82c34b511f1f7ba7017c1eac4584a651d98b4b48301b76d97f8d5302155", func := "example.com/paceline/paceline/pacing.LawS1809AClosed", spec := "lawS1809AClosed", inPlace := ["math.Float64bits"], apart := false }
def LawS1809AClosedSaid : Prop := lawS1809AClosedRow.holds Yba.pinned (OpenSpec.ofChange lawS1809AClosedSpec)

/-- ITS FALSE NEIGHBOUR: 'it returns false'. Refute it at one input. -/
def lawS1809AClosedWrong : ChangeSpec := { name := "lawS1809AClosed", fn := fun _ => fun
  | [d1, d2, d3, d4, d5, d6] => { results := [.lit (.bool false)], args := [d1, d2, d3, d4, d5, d6] }
  | _ => none }
def LawS1809AClosedWrongFalsely : Prop := lawS1809AClosedRow.holds Yba.pinned (OpenSpec.ofChange lawS1809AClosedWrong)

/-- 'pacing.LawS1809ANoSpendNoRef': WHATEVER THE INPUT: true; the input reads as it did. -/
def lawS1809ANoSpendNoRefSpec : ChangeSpec := { name := "lawS1809ANoSpendNoRef", fn := fun _ => fun
  | [d1, d2, d3, d4] => { results := [.lit (.bool true)], args := [d1, d2, d3, d4] }
  | _ => none }
def lawS1809ANoSpendNoRefRow : OpenClaim := { program := "ybulkaklc", sum := "c1c1d82c34b511f1f7ba7017c1eac4584a651d98b4b48301b76d97f8d5302155", func := "example.com/paceline/paceline/pacing.LawS1809ANoSpendNoRef", spec := "lawS1809ANoSpendNoRef", inPlace := ["math.Float64bits"], apart := false }
def LawS1809ANoSpendNoRefSaid : Prop := lawS1809ANoSpendNoRefRow.holds Yba.pinned (OpenSpec.ofChange lawS1809ANoSpendNoRefSpec)

/-- ITS FALSE NEIGHBOUR: 'it returns false'. Refute it at one input. -/
def lawS1809ANoSpendNoRefWrong : ChangeSpec := { name := "lawS1809ANoSpendNoRef", fn := fun _ => fun
  | [d1, d2, d3, d4] => { results := [.lit (.bool false)], args := [d1, d2, d3, d4] }
  | _ => none }
def LawS1809ANoSpendNoRefWrongFalsely : Prop := lawS1809ANoSpendNoRefRow.holds Yba.pinned (OpenSpec.ofChange lawS1809ANoSpendNoRefWrong)

/-- 'pacing.LawS1809CRates': WHATEVER THE INPUT: true; the input reads as it did. -/
def lawS1809CRatesSpec : ChangeSpec := { name := "lawS1809CRates", fn := fun _ => fun
  | [d1, d2, d3, d4] => { results := [.lit (.bool true)], args := [d1, d2, d3, d4] }
  | _ => none }
def lawS1809CRatesRow : OpenClaim := { program := "ybulkaklc", sum := "c1c1d82c34b511f1f7ba7017c1eac4584a651d98b4b48301b76d97f8d5302155", func := "example.com/paceline/paceline/pacing.LawS1809CRates", spec := "lawS1809CRates", unfollowed := true, recurses := true, apart := false }
def LawS1809CRatesSaid : Prop := lawS1809CRatesRow.holds Yba.pinned (OpenSpec.ofChange lawS1809CRatesSpec)

/-- ITS FALSE NEIGHBOUR: 'it returns false'. Refute it at one input. -/
def lawS1809CRatesWrong : ChangeSpec := { name := "lawS1809CRates", fn := fun _ => fun
  | [d1, d2, d3, d4] => { results := [.lit (.bool false)], args := [d1, d2, d3, d4] }
  | _ => none }
def LawS1809CRatesWrongFalsely : Prop := lawS1809CRatesRow.holds Yba.pinned (OpenSpec.ofChange lawS1809CRatesWrong)

end Rows
end Go.Proofs.Ybulkaklc
