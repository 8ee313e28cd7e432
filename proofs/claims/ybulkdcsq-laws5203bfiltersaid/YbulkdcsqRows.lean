/-
  No cell of these rows narrows 'for every input' (looked for: loops, veiled, ifaces, maps, wideKeys, modest, calm, conditions, laid).
  DERIVED. THE GIVEN ROWS OF THIS SEAT. 1 by the template 'for every input the law returns true; each argument reads behind the call as it read before'; 0 by the template 'total and deterministic' (their statements: YbulkdcsqTotals.lean).
  GIVEN WITH THE SEED: the statements are not yours to turn. If you find one false, say at which input.
  Laid BY PROGRAM, IN A SANDBOX (cutbox-rows.mjs): the forced cells as the released guide's own fill.sh prints them over the translation 5d5b3fb03947c9a0… (all of the seat's roots in one cut). By AI agents, Wed Nov 11 2026. No macro, syntax, notation, axiom, sorry.
-/
import Derived.Test.YbulkdcsqChecked
import GoSem.Claim
import GoSem.ClaimJoined
import GoSem.ClaimMapViews
import Derived.JoinedTies
import Derived.KernelRfl
namespace Go.Proofs.Ybulkdcsq
/- THE CELL 'sum', in the pinned program and in every row, IS THE sha256 OF THE DUMP (.gsa) THAT YbulkdcsqProg.lean LOADS. Nothing in Lean hashes anything: it is a label: what it is worth is what the hold of that sum in a sandbox is worth. -/
noncomputable def Yba.pinned : Pinned := { name := "ybulkdcsq", sum := "5d5b3fb03947c9a07543e0d80fed30602edba7f364a1e192b35b32167993f9d5", checked := Yba.checked }
namespace Rows
def none {H : Type} : Left H := { results := [], args := [] }

/-- 'query.LawS5203BFilter': WHATEVER THE INPUT: true; the input reads as it did. -/
def lawS5203BFilterSpec : ChangeSpec := { name := "lawS5203BFilter", fn := fun _ => fun
  | [d1, d2] => { results := [.lit (.bool true)], args := [d1, d2] }
  | _ => none }
def lawS5203BFilterRow : OpenClaim := { program := "ybulkdcsq", sum := "5d5b3fb03947c9a07543e0d80fed30602edba7f364a1e192b35b32167993f9d5", func := "example.com/treewright/treewright/query.LawS5203BFilter", spec := "lawS5203BFilter", apart := false }
def LawS5203BFilterSaid : Prop := lawS5203BFilterRow.holds Yba.pinned (OpenSpec.ofChange lawS5203BFilterSpec)

/-- ITS FALSE NEIGHBOUR: 'it returns false'. Refute it at one input. -/
def lawS5203BFilterWrong : ChangeSpec := { name := "lawS5203BFilter", fn := fun _ => fun
  | [d1, d2] => { results := [.lit (.bool false)], args := [d1, d2] }
  | _ => none }
def LawS5203BFilterWrongFalsely : Prop := lawS5203BFilterRow.holds Yba.pinned (OpenSpec.ofChange lawS5203BFilterWrong)

end Rows
end Go.Proofs.Ybulkdcsq
