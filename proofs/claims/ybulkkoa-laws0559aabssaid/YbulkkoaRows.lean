/-
  No cell of these rows narrows 'for every input' (looked for: loops, veiled, ifaces, maps, wideKeys, modest, calm, conditions, laid).
  DERIVED. THE GIVEN ROWS OF THIS SEAT. 2 by the template 'for every input the law returns true; each argument reads behind the call as it read before'; 0 by the template 'total and deterministic' (their statements: YbulkkoaTotals.lean).
  GIVEN WITH THE SEED: the statements are not yours to turn. If you find one false, say at which input.
  Laid BY PROGRAM, IN A SANDBOX (cutbox-rows.mjs): the forced cells as the released guide's own fill.sh prints them over the translation bf4af86d0382c0f6… (all of the seat's roots in one cut). By AI agents, Wed Nov 11 2026. No macro, syntax, notation, axiom, sorry.
-/
import Derived.Test.YbulkkoaChecked
import GoSem.Claim
import GoSem.ClaimJoined
import GoSem.ClaimMapViews
import Derived.JoinedTies
import Derived.KernelRfl
namespace Go.Proofs.Ybulkkoa
/- THE CELL 'sum', in the pinned program and in every row, IS THE sha256 OF THE DUMP (.gsa) THAT YbulkkoaProg.lean LOADS. Nothing in Lean hashes anything: it is a label: what it is worth is what the hold of that sum in a sandbox is worth. -/
noncomputable def Yba.pinned : Pinned := { name := "ybulkkoa", sum := "bf4af86d0382c0f6096370a944096e752c07c2037e88dd7ba447a91610c7844e", checked := Yba.checked }
namespace Rows
def none {H : Type} : Left H := { results := [], args := [] }

/-- 'decimal.LawS0559AAbs': WHATEVER THE INPUT: true; the input reads as it did. -/
def lawS0559AAbsSpec : ChangeSpec := { name := "lawS0559AAbs", fn := fun _ => fun
  | [d] => { results := [.lit (.bool true)], args := [d] }
  | _ => none }
def lawS0559AAbsRow : OpenClaim := { program := "ybulkkoa", sum := "bf4af86d0382c0f6096370a944096e752c07c2037e88dd7ba447a91610c7844e", func := "example.com/listmark/listmark/decimal.LawS0559AAbs", spec := "lawS0559AAbs", apart := false }
def LawS0559AAbsSaid : Prop := lawS0559AAbsRow.holds Yba.pinned (OpenSpec.ofChange lawS0559AAbsSpec)

/-- ITS FALSE NEIGHBOUR: 'it returns false'. Refute it at one input. -/
def lawS0559AAbsWrong : ChangeSpec := { name := "lawS0559AAbs", fn := fun _ => fun
  | [d] => { results := [.lit (.bool false)], args := [d] }
  | _ => none }
def LawS0559AAbsWrongFalsely : Prop := lawS0559AAbsRow.holds Yba.pinned (OpenSpec.ofChange lawS0559AAbsWrong)

/-- 'decimal.LawS0559ASymmetric': WHATEVER THE INPUT: true; the input reads as it did. -/
def lawS0559ASymmetricSpec : ChangeSpec := { name := "lawS0559ASymmetric", fn := fun _ => fun
  | [d] => { results := [.lit (.bool true)], args := [d] }
  | _ => none }
def lawS0559ASymmetricRow : OpenClaim := { program := "ybulkkoa", sum := "bf4af86d0382c0f6096370a944096e752c07c2037e88dd7ba447a91610c7844e", func := "example.com/listmark/listmark/decimal.LawS0559ASymmetric", spec := "lawS0559ASymmetric", apart := false }
def LawS0559ASymmetricSaid : Prop := lawS0559ASymmetricRow.holds Yba.pinned (OpenSpec.ofChange lawS0559ASymmetricSpec)

/-- ITS FALSE NEIGHBOUR: 'it returns false'. Refute it at one input. -/
def lawS0559ASymmetricWrong : ChangeSpec := { name := "lawS0559ASymmetric", fn := fun _ => fun
  | [d] => { results := [.lit (.bool false)], args := [d] }
  | _ => none }
def LawS0559ASymmetricWrongFalsely : Prop := lawS0559ASymmetricRow.holds Yba.pinned (OpenSpec.ofChange lawS0559ASymmetricWrong)

end Rows
end Go.Proofs.Ybulkkoa
