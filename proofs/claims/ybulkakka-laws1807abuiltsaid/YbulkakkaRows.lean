/-
  No cell of these rows narrows 'for every input' (looked for: loops, veiled, ifaces, maps, wideKeys, modest, calm, conditions, laid).
  DERIVED. THE GIVEN ROWS OF THIS SEAT. 2 by the template 'for every input the law returns true; each argument reads behind the call as it read before'; 0 by the template 'total and deterministic' (their statements: YbulkakkaTotals.lean).
  GIVEN WITH THE SEED: the statements are not yours to turn. If you find one false, say at which input.
  Laid BY PROGRAM, IN A SANDBOX (cutbox-rows.mjs): the forced cells as the released guide's own fill.sh prints them over the translation e04c2606b394894f… (all of the seat's roots in one cut). By AI agents, Wed Nov 11 2026. No macro, syntax, notation, axiom, sorry.
-/
import Derived.Test.YbulkakkaChecked
import GoSem.Claim
import GoSem.ClaimJoined
import GoSem.ClaimMapViews
import Derived.JoinedTies
import Derived.KernelRfl
namespace Go.Proofs.Ybulkakka
/- THE CELL 'sum', in the pinned program and in every row, IS THE sha256 OF THE DUMP (.gsa) THAT YbulkakkaProg.lean LOADS. Nothing in Lean hashes anything: it is a label: what it is worth is what the hold of that sum in a sandbox is worth. -/
noncomputable def Yba.pinned : Pinned := { name := "ybulkakka", sum := "e04c2606b394894f9496308845917c4c905ef5454ec43a830c03e18f734a23ce", checked := Yba.checked }
namespace Rows
def none {H : Type} : Left H := { results := [], args := [] }

/-- 'pico-access.LawS1807AModel': WHATEVER THE INPUT: true; the input reads as it did. -/
def lawS1807AModelSpec : ChangeSpec := { name := "lawS1807AModel", fn := fun _ => fun
  | [d] => { results := [.lit (.bool true)], args := [d] }
  | _ => none }
def lawS1807AModelRow : OpenClaim := { program := "ybulkakka", sum := "e04c2606b394894f9496308845917c4c905ef5454ec43a830c03e18f734a23ce", func := "example.com/pico-access/pico-access.LawS1807AModel", spec := "lawS1807AModel", apart := false }
def LawS1807AModelSaid : Prop := lawS1807AModelRow.holds Yba.pinned (OpenSpec.ofChange lawS1807AModelSpec)

/-- ITS FALSE NEIGHBOUR: 'it returns false'. Refute it at one input. -/
def lawS1807AModelWrong : ChangeSpec := { name := "lawS1807AModel", fn := fun _ => fun
  | [d] => { results := [.lit (.bool false)], args := [d] }
  | _ => none }
def LawS1807AModelWrongFalsely : Prop := lawS1807AModelRow.holds Yba.pinned (OpenSpec.ofChange lawS1807AModelWrong)

/-- 'pico-access.LawS1807ABuilt': WHATEVER THE INPUT: true; the input reads as it did. -/
def lawS1807ABuiltSpec : ChangeSpec := { name := "lawS1807ABuilt", fn := fun _ => fun
  | [d1, d2, d3] => { results := [.lit (.bool true)], args := [d1, d2, d3] }
  | _ => none }
def lawS1807ABuiltRow : OpenClaim := { program := "ybulkakka", sum := "e04c2606b394894f9496308845917c4c905ef5454ec43a830c03e18f734a23ce", func := "example.com/pico-access/pico-access.LawS1807ABuilt", spec := "lawS1807ABuilt", apart := false }
def LawS1807ABuiltSaid : Prop := lawS1807ABuiltRow.holds Yba.pinned (OpenSpec.ofChange lawS1807ABuiltSpec)

/-- ITS FALSE NEIGHBOUR: 'it returns false'. Refute it at one input. -/
def lawS1807ABuiltWrong : ChangeSpec := { name := "lawS1807ABuilt", fn := fun _ => fun
  | [d1, d2, d3] => { results := [.lit (.bool false)], args := [d1, d2, d3] }
  | _ => none }
def LawS1807ABuiltWrongFalsely : Prop := lawS1807ABuiltRow.holds Yba.pinned (OpenSpec.ofChange lawS1807ABuiltWrong)

end Rows
end Go.Proofs.Ybulkakka
