/-
  No cell of these rows narrows 'for every input' (looked for: loops, veiled, ifaces, maps, wideKeys, modest, calm, conditions, laid).
  DERIVED. THE GIVEN ROWS OF THIS SEAT. 2 by the template 'for every input the law returns true; each argument reads behind the call as it read before'; 0 by the template 'total and deterministic' (their statements: YbulkdcviTotals.lean).
  GIVEN WITH THE SEED: the statements are not yours to turn. If you find one false, say at which input.
  Laid BY PROGRAM, IN A SANDBOX (cutbox-rows.mjs): the forced cells as the released guide's own fill.sh prints them over the translation d43c915d14b8510a… (all of the seat's roots in one cut). By AI agents, Wed Nov 11 2026. No macro, syntax, notation, axiom, sorry.
-/
import Derived.Test.YbulkdcviChecked
import GoSem.Claim
import GoSem.ClaimJoined
import GoSem.ClaimMapViews
import Derived.JoinedTies
import Derived.KernelRfl
namespace Go.Proofs.Ybulkdcvi
/- THE CELL 'sum', in the pinned program and in every row, IS THE sha256 OF THE DUMP (.gsa) THAT YbulkdcviProg.lean LOADS. Nothing in Lean hashes anything: it is a label: what it is worth is what the hold of that sum in a sandbox is worth. -/
noncomputable def Yba.pinned : Pinned := { name := "ybulkdcvi", sum := "d43c915d14b8510a08aaf4460cb0f8d4ce8e789c009f88f786e6c42bcc0ddcb3", checked := Yba.checked }
namespace Rows
def none {H : Type} : Left H := { results := [], args := [] }

/-- 'happenstance.LawS5208CModel': WHATEVER THE INPUT: true; the input reads as it did. -/
def lawS5208CModelSpec : ChangeSpec := { name := "lawS5208CModel", fn := fun _ => fun
  | [d1, d2, d3, d4, d5, d6] => { results := [.lit (.bool true)], args := [d1, d2, d3, d4, d5, d6] }
  | _ => none }
def lawS5208CModelRow : OpenClaim := { program := "ybulkdcvi", sum := "d43c915d14b8510a08aaf4460cb0f8d4ce8e789c009f88f786e6c42bcc0ddcb3", func := "example.com/happenstance/happenstance.LawS5208CModel", spec := "lawS5208CModel", named := ["encoding/binary.LittleEndian"], apart := false }
def LawS5208CModelSaid : Prop := lawS5208CModelRow.holds Yba.pinned (OpenSpec.ofChange lawS5208CModelSpec)

/-- ITS FALSE NEIGHBOUR: 'it returns false'. Refute it at one input. -/
def lawS5208CModelWrong : ChangeSpec := { name := "lawS5208CModel", fn := fun _ => fun
  | [d1, d2, d3, d4, d5, d6] => { results := [.lit (.bool false)], args := [d1, d2, d3, d4, d5, d6] }
  | _ => none }
def LawS5208CModelWrongFalsely : Prop := lawS5208CModelRow.holds Yba.pinned (OpenSpec.ofChange lawS5208CModelWrong)

/-- 'happenstance.LawS5208CChain': WHATEVER THE INPUT: true; the input reads as it did. -/
def lawS5208CChainSpec : ChangeSpec := { name := "lawS5208CChain", fn := fun _ => fun
  | [d1, d2] => { results := [.lit (.bool true)], args := [d1, d2] }
  | _ => none }
def lawS5208CChainRow : OpenClaim := { program := "ybulkdcvi", sum := "d43c915d14b8510a08aaf4460cb0f8d4ce8e789c009f88f786e6c42bcc0ddcb3", func := "example.com/happenstance/happenstance.LawS5208CChain", spec := "lawS5208CChain", named := ["encoding/binary.LittleEndian"], apart := false }
def LawS5208CChainSaid : Prop := lawS5208CChainRow.holds Yba.pinned (OpenSpec.ofChange lawS5208CChainSpec)

/-- ITS FALSE NEIGHBOUR: 'it returns false'. Refute it at one input. -/
def lawS5208CChainWrong : ChangeSpec := { name := "lawS5208CChain", fn := fun _ => fun
  | [d1, d2] => { results := [.lit (.bool false)], args := [d1, d2] }
  | _ => none }
def LawS5208CChainWrongFalsely : Prop := lawS5208CChainRow.holds Yba.pinned (OpenSpec.ofChange lawS5208CChainWrong)

end Rows
end Go.Proofs.Ybulkdcvi
