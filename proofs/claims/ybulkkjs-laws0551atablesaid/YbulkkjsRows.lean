/-
  No cell of these rows narrows 'for every input' (looked for: loops, veiled, ifaces, maps, wideKeys, modest, calm, conditions, laid).
  DERIVED. THE GIVEN ROWS OF THIS SEAT. 1 by the template 'for every input the law returns true; each argument reads behind the call as it read before'; 0 by the template 'total and deterministic' (their statements: YbulkkjsTotals.lean).
  GIVEN WITH THE SEED: the statements are not yours to turn. If you find one false, say at which input.
  Laid BY PROGRAM, IN A SANDBOX (cutbox-rows.mjs): the forced cells as the released guide's own fill.sh prints them over the translation 408a4a385452effb… (all of the seat's roots in one cut). By AI agents, Wed Nov 11 2026. No macro, syntax, notation, axiom, sorry.
-/
import Derived.Test.YbulkkjsChecked
import GoSem.Claim
import GoSem.ClaimJoined
import GoSem.ClaimMapViews
import Derived.JoinedTies
import Derived.KernelRfl
namespace Go.Proofs.Ybulkkjs
/- THE CELL 'sum', in the pinned program and in every row, IS THE sha256 OF THE DUMP (.gsa) THAT YbulkkjsProg.lean LOADS. Nothing in Lean hashes anything: it is a label: what it is worth is what the hold of that sum in a sandbox is worth. -/
noncomputable def Yba.pinned : Pinned := { name := "ybulkkjs", sum := "408a4a385452effb480649beb155078f6040f16c4a649f6ee9c072394841d7ab", checked := Yba.checked }
namespace Rows
def none {H : Type} : Left H := { results := [], args := [] }

/-- 'leaseapi.LawS0551ATable': WHATEVER THE INPUT: true; the input reads as it did. -/
def lawS0551ATableSpec : ChangeSpec := { name := "lawS0551ATable", fn := fun _ => fun
  | [d1, d2, d3, d4, d5, d6, d7, d8] => { results := [.lit (.bool true)], args := [d1, d2, d3, d4, d5, d6, d7, d8] }
  | _ => none }
def lawS0551ATableRow : OpenClaim := { program := "ybulkkjs", sum := "408a4a385452effb480649beb155078f6040f16c4a649f6ee9c072394841d7ab", func := "example.com/tenure/tenure/leaseapi.LawS0551ATable", spec := "lawS0551ATable", unfollowed := true, recurses := true, apart := false }
def LawS0551ATableSaid : Prop := lawS0551ATableRow.holds Yba.pinned (OpenSpec.ofChange lawS0551ATableSpec)

/-- ITS FALSE NEIGHBOUR: 'it returns false'. Refute it at one input. -/
def lawS0551ATableWrong : ChangeSpec := { name := "lawS0551ATable", fn := fun _ => fun
  | [d1, d2, d3, d4, d5, d6, d7, d8] => { results := [.lit (.bool false)], args := [d1, d2, d3, d4, d5, d6, d7, d8] }
  | _ => none }
def LawS0551ATableWrongFalsely : Prop := lawS0551ATableRow.holds Yba.pinned (OpenSpec.ofChange lawS0551ATableWrong)

end Rows
end Go.Proofs.Ybulkkjs
