/-
  No cell of these rows narrows 'for every input' (looked for: loops, veiled, ifaces, maps, wideKeys, modest, calm, conditions, laid).
  DERIVED. THE GIVEN ROWS OF THIS SEAT. 2 by the template 'for every input the law returns true; each argument reads behind the call as it read before'; 0 by the template 'total and deterministic' (their statements: YbulkdetyTotals.lean).
  GIVEN WITH THE SEED: the statements are not yours to turn. If you find one false, say at which input.
  Laid BY PROGRAM, IN A SANDBOX (cutbox-rows.mjs): the forced cells as the released guide's own fill.sh prints them over the translation 033f892c85641055… (all of the seat's roots in one cut). By AI agents, Wed Nov 11 2026. No macro, syntax, notation, axiom, sorry.
-/
import Derived.Test.YbulkdetyChecked
import GoSem.Claim
import GoSem.ClaimJoined
import GoSem.ClaimMapViews
import Derived.JoinedTies
import Derived.KernelRfl
namespace Go.Proofs.Ybulkdety
/- THE CELL 'sum', in the pinned program and in every row, IS THE sha256 OF THE DUMP (.gsa) THAT YbulkdetyProg.lean LOADS. Nothing in Lean hashes anything: it is a label: what it is worth is what the hold of that sum in a sandbox is worth. -/
noncomputable def Yba.pinned : Pinned := { name := "ybulkdety", sum := "033f892c85641055f124c640cc182e342e1491206670aa0b94433c2865d14415", checked := Yba.checked }
namespace Rows
def none {H : Type} : Left H := { results := [], args := [] }

/-- 'tophash.LawS5302AOne': WHATEVER THE INPUT: true; the input reads as it did. -/
def lawS5302AOneSpec : ChangeSpec := { name := "lawS5302AOne", fn := fun _ => fun
  | [d1, d2, d3, d4] => { results := [.lit (.bool true)], args := [d1, d2, d3, d4] }
  | _ => none }
def lawS5302AOneRow : OpenClaim := { program := "ybulkdety", sum := "033f892c85641055f124c640cc182e342e1491206670aa0b94433c2865d14415", func := "example.com/tophash/tophash.LawS5302AOne", spec := "lawS5302AOne", apart := false }
def LawS5302AOneSaid : Prop := lawS5302AOneRow.holds Yba.pinned (OpenSpec.ofChange lawS5302AOneSpec)

/-- ITS FALSE NEIGHBOUR: 'it returns false'. Refute it at one input. -/
def lawS5302AOneWrong : ChangeSpec := { name := "lawS5302AOne", fn := fun _ => fun
  | [d1, d2, d3, d4] => { results := [.lit (.bool false)], args := [d1, d2, d3, d4] }
  | _ => none }
def LawS5302AOneWrongFalsely : Prop := lawS5302AOneRow.holds Yba.pinned (OpenSpec.ofChange lawS5302AOneWrong)

/-- 'tophash.LawS5302AChain': WHATEVER THE INPUT: true; the input reads as it did. -/
def lawS5302AChainSpec : ChangeSpec := { name := "lawS5302AChain", fn := fun _ => fun
  | [d1, d2, d3, d4] => { results := [.lit (.bool true)], args := [d1, d2, d3, d4] }
  | _ => none }
def lawS5302AChainRow : OpenClaim := { program := "ybulkdety", sum := "033f892c85641055f124c640cc182e342e1491206670aa0b94433c2865d14415", func := "example.com/tophash/tophash.LawS5302AChain", spec := "lawS5302AChain", apart := false }
def LawS5302AChainSaid : Prop := lawS5302AChainRow.holds Yba.pinned (OpenSpec.ofChange lawS5302AChainSpec)

/-- ITS FALSE NEIGHBOUR: 'it returns false'. Refute it at one input. -/
def lawS5302AChainWrong : ChangeSpec := { name := "lawS5302AChain", fn := fun _ => fun
  | [d1, d2, d3, d4] => { results := [.lit (.bool false)], args := [d1, d2, d3, d4] }
  | _ => none }
def LawS5302AChainWrongFalsely : Prop := lawS5302AChainRow.holds Yba.pinned (OpenSpec.ofChange lawS5302AChainWrong)

end Rows
end Go.Proofs.Ybulkdety
