/-
  No cell of these rows narrows 'for every input' (looked for: loops, veiled, ifaces, maps, wideKeys, modest, calm, conditions, laid).
  DERIVED. THE GIVEN ROWS OF THIS SEAT. 2 by the template 'for every input the law returns true; each argument reads behind the call as it read before'; 0 by the template 'total and deterministic' (their statements: YbulkdcvwTotals.lean).
  GIVEN WITH THE SEED: the statements are not yours to turn. If you find one false, say at which input.
  Laid BY PROGRAM, IN A SANDBOX (cutbox-rows.mjs): the forced cells as the released guide's own fill.sh prints them over the translation 7a7bc230cc0696a8… (all of the seat's roots in one cut). By AI agents, Wed Nov 11 2026. No macro, syntax, notation, axiom, sorry.
-/
import Derived.Test.YbulkdcvwChecked
import GoSem.Claim
import GoSem.ClaimJoined
import GoSem.ClaimMapViews
import Derived.JoinedTies
import Derived.KernelRfl
namespace Go.Proofs.Ybulkdcvw
/- THE CELL 'sum', in the pinned program and in every row, IS THE sha256 OF THE DUMP (.gsa) THAT YbulkdcvwProg.lean LOADS. Nothing in Lean hashes anything: it is a label: what it is worth is what the hold of that sum in a sandbox is worth. -/
noncomputable def Yba.pinned : Pinned := { name := "ybulkdcvw", sum := "7a7bc230cc0696a87da2ec990f11a74a17bbb3f8451749f6a65c14766d402a22", checked := Yba.checked }
namespace Rows
def none {H : Type} : Left H := { results := [], args := [] }

/-- 'muster.LawS5209BFirstMatch': WHATEVER THE INPUT: true; the input reads as it did. -/
def lawS5209BFirstMatchSpec : ChangeSpec := { name := "lawS5209BFirstMatch", fn := fun _ => fun
  | [d1, d2, d3] => { results := [.lit (.bool true)], args := [d1, d2, d3] }
  | _ => none }
def lawS5209BFirstMatchRow : OpenClaim := { program := "ybulkdcvw", sum := "7a7bc230cc0696a87da2ec990f11a74a17bbb3f8451749f6a65c14766d402a22", func := "example.com/muster/muster.LawS5209BFirstMatch", spec := "lawS5209BFirstMatch", plainKeys := false, apart := false }
def LawS5209BFirstMatchSaid : Prop := lawS5209BFirstMatchRow.holds Yba.pinned (OpenSpec.ofChange lawS5209BFirstMatchSpec)

/-- ITS FALSE NEIGHBOUR: 'it returns false'. Refute it at one input. -/
def lawS5209BFirstMatchWrong : ChangeSpec := { name := "lawS5209BFirstMatch", fn := fun _ => fun
  | [d1, d2, d3] => { results := [.lit (.bool false)], args := [d1, d2, d3] }
  | _ => none }
def LawS5209BFirstMatchWrongFalsely : Prop := lawS5209BFirstMatchRow.holds Yba.pinned (OpenSpec.ofChange lawS5209BFirstMatchWrong)

/-- 'muster.LawS5209CNack': WHATEVER THE INPUT: true; the input reads as it did. -/
def lawS5209CNackSpec : ChangeSpec := { name := "lawS5209CNack", fn := fun _ => fun
  | [d1, d2, d3, d4, d5, d6, d7] => { results := [.lit (.bool true)], args := [d1, d2, d3, d4, d5, d6, d7] }
  | _ => none }
def lawS5209CNackRow : OpenClaim := { program := "ybulkdcvw", sum := "7a7bc230cc0696a87da2ec990f11a74a17bbb3f8451749f6a65c14766d402a22", func := "example.com/muster/muster.LawS5209CNack", spec := "lawS5209CNack", plainKeys := false, apart := false }
def LawS5209CNackSaid : Prop := lawS5209CNackRow.holds Yba.pinned (OpenSpec.ofChange lawS5209CNackSpec)

/-- ITS FALSE NEIGHBOUR: 'it returns false'. Refute it at one input. -/
def lawS5209CNackWrong : ChangeSpec := { name := "lawS5209CNack", fn := fun _ => fun
  | [d1, d2, d3, d4, d5, d6, d7] => { results := [.lit (.bool false)], args := [d1, d2, d3, d4, d5, d6, d7] }
  | _ => none }
def LawS5209CNackWrongFalsely : Prop := lawS5209CNackRow.holds Yba.pinned (OpenSpec.ofChange lawS5209CNackWrong)

end Rows
end Go.Proofs.Ybulkdcvw
