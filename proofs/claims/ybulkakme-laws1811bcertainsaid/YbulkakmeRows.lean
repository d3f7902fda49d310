/-
  No cell of these rows narrows 'for every input' (looked for: loops, veiled, ifaces, maps, wideKeys, modest, calm, conditions, laid).
  DERIVED. THE GIVEN ROWS OF THIS SEAT. 2 by the template 'for every input the law returns true; each argument reads behind the call as it read before'; 0 by the template 'total and deterministic' (their statements: YbulkakmeTotals.lean).
  GIVEN WITH THE SEED: the statements are not yours to turn. If you find one false, say at which input.
  Laid BY PROGRAM, IN A SANDBOX (cutbox-rows.mjs): the forced cells as the released guide's own fill.sh prints them over the translation 314a811a434b3b99… (all of the seat's roots in one cut). By AI agents, Wed Nov 11 2026. No macro, syntax, notation, axiom, sorry.
-/
import Derived.Test.YbulkakmeChecked
import GoSem.Claim
import GoSem.ClaimJoined
import GoSem.ClaimMapViews
import Derived.JoinedTies
import Derived.KernelRfl
namespace Go.Proofs.Ybulkakme
/- THE CELL 'sum', in the pinned program and in every row, IS THE sha256 OF THE DUMP (.gsa) THAT YbulkakmeProg.lean LOADS. Nothing in Lean hashes anything: it is a label: what it is worth is what the hold of that sum in a sandbox is worth. -/
noncomputable def Yba.pinned : Pinned := { name := "ybulkakme", sum := "314a811a434b3b99b4054aed64e3209510f30a7d114f7ceee069569aaa512121", checked := Yba.checked }
namespace Rows
def none {H : Type} : Left H := { results := [], args := [] }

/-- 'taskweft.LawS1811BCertain': WHATEVER THE INPUT: true; the input reads as it did. -/
def lawS1811BCertainSpec : ChangeSpec := { name := "lawS1811BCertain", fn := fun _ => fun
  | [d1, d2, d3, d4] => { results := [.lit (.bool true)], args := [d1, d2, d3, d4] }
  | _ => none }
def lawS1811BCertainRow : OpenClaim := { program := "ybulkakme", sum := "314a811a434b3b99b4054aed64e3209510f30a7d114f7ceee069569aaa512121", func := "example.com/taskweft/taskweft.LawS1811BCertain", spec := "lawS1811BCertain", apart := false }
def LawS1811BCertainSaid : Prop := lawS1811BCertainRow.holds Yba.pinned (OpenSpec.ofChange lawS1811BCertainSpec)

/-- ITS FALSE NEIGHBOUR: 'it returns false'. Refute it at one input. -/
def lawS1811BCertainWrong : ChangeSpec := { name := "lawS1811BCertain", fn := fun _ => fun
  | [d1, d2, d3, d4] => { results := [.lit (.bool false)], args := [d1, d2, d3, d4] }
  | _ => none }
def LawS1811BCertainWrongFalsely : Prop := lawS1811BCertainRow.holds Yba.pinned (OpenSpec.ofChange lawS1811BCertainWrong)

/-- 'taskweft.LawS1811CList': WHATEVER THE INPUT: true; the input reads as it did. -/
def lawS1811CListSpec : ChangeSpec := { name := "lawS1811CList", fn := fun _ => fun
  | [d1, d2, d3, d4] => { results := [.lit (.bool true)], args := [d1, d2, d3, d4] }
  | _ => none }
def lawS1811CListRow : OpenClaim := { program := "ybulkakme", sum := "314a811a434b3b99b4054aed64e3209510f30a7d114f7ceee069569aaa512121", func := "example.com/taskweft/taskweft.LawS1811CList", spec := "lawS1811CList", inPlace := ["internal/abi.NoEscape", "internal/bytealg.MakeNoZero"], unfollowed := true, recurses := true, apart := false }
def LawS1811CListSaid : Prop := lawS1811CListRow.holds Yba.pinned (OpenSpec.ofChange lawS1811CListSpec)

/-- ITS FALSE NEIGHBOUR: 'it returns false'. Refute it at one input. -/
def lawS1811CListWrong : ChangeSpec := { name := "lawS1811CList", fn := fun _ => fun
  | [d1, d2, d3, d4] => { results := [.lit (.bool false)], args := [d1, d2, d3, d4] }
  | _ => none }
def LawS1811CListWrongFalsely : Prop := lawS1811CListRow.holds Yba.pinned (OpenSpec.ofChange lawS1811CListWrong)

end Rows
end Go.Proofs.Ybulkakme
