/-
  No cell of these rows narrows 'for every input' (looked for: loops, veiled, ifaces, maps, wideKeys, modest, calm, conditions, laid).
  DERIVED. THE GIVEN ROWS OF THIS SEAT. 1 by the template 'for every input the law returns true; each argument reads behind the call as it read before'; 0 by the template 'total and deterministic' (their statements: YbonekuxeGreatTotals.lean).
  GIVEN WITH THE SEED: the statements are not yours to turn. If you find one false, say at which input.
  Laid BY PROGRAM, IN A SANDBOX (cutbox-rows.mjs): the forced cells as the released guide's own fill.sh prints them over the translation 5ef15821dfda7fe3… (all of the seat's roots in one cut). By AI agents, Wed Nov 11 2026. No macro, syntax, notation, axiom, sorry.
-/
import Derived.Test.YbonekuxeGreatChecked
import GoSem.Claim
import GoSem.ClaimJoined
import GoSem.ClaimMapViews
import Derived.JoinedTies
import Derived.KernelRfl
namespace Go.Proofs.YbonekuxeGreat
/- THE CELL 'sum', in the pinned program and in every row, IS THE sha256 OF THE DUMP (.gsa) THAT YbonekuxeGreatProg.lean LOADS. Nothing in Lean hashes anything: it is a label: what it is worth is what the hold of that sum in a sandbox is worth. -/
noncomputable def Ybgs.pinned : Pinned := { name := "ybonekuxegreat", sum := "5ef15821dfda7fe3b853de49dbaad226b002d947a5ed5163d4bdd28fe19c6105", checked := Ybgs.checked }
namespace Rows
def none {H : Type} : Left H := { results := [], args := [] }

/-- 'node.LawS5204ASorts': WHATEVER THE INPUT: true; the input reads as it did. -/
def lawS5204ASortsSpec : ChangeSpec := { name := "lawS5204ASorts", fn := fun _ => fun
  | [d] => { results := [.lit (.bool true)], args := [d] }
  | _ => none }
def lawS5204ASortsRow : OpenClaim := { program := "ybonekuxegreat", sum := "5ef15821dfda7fe3b853de49dbaad226b002d947a5ed5163d4bdd28fe19c6105", func := "example.com/confluo/confluo/internal/node.LawS5204ASorts", spec := "lawS5204ASorts", inPlace := ["internal/bytealg.abigen_runtime_cmpstring"], unfollowed := true, recurses := true, named := ["encoding/binary.BigEndian"], plainKeys := false, apart := false }
def LawS5204ASortsSaid : Prop := lawS5204ASortsRow.holds Ybgs.pinned (OpenSpec.ofChange lawS5204ASortsSpec)

/-- ITS FALSE NEIGHBOUR: 'it returns false'. Refute it at one input. -/
def lawS5204ASortsWrong : ChangeSpec := { name := "lawS5204ASorts", fn := fun _ => fun
  | [d] => { results := [.lit (.bool false)], args := [d] }
  | _ => none }
def LawS5204ASortsWrongFalsely : Prop := lawS5204ASortsRow.holds Ybgs.pinned (OpenSpec.ofChange lawS5204ASortsWrong)

end Rows
end Go.Proofs.YbonekuxeGreat
