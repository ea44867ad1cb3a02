/-
  No cell of these rows narrows 'for every input' (looked for: loops, veiled, ifaces, maps, wideKeys, modest, calm, conditions, laid).
  DERIVED. THE GIVEN ROWS OF THIS SEAT. 5 by the template 'for every input the law returns true; each argument reads behind the call as it read before'; 0 by the template 'total and deterministic' (their statements: YbulkkhaTotals.lean).
  GIVEN WITH THE SEED: the statements are not yours to turn. If you find one false, say at which input.
  Laid BY PROGRAM, IN A SANDBOX (cutbox-rows.mjs): the forced cells as the released guide's own fill.sh prints them over the translation 42c9d9d78faab045… (all of the seat's roots in one cut). By AI agents, Wed Nov 11 2026. No macro, syntax, notation, axiom, sorry.
-/
import Derived.Test.YbulkkhaChecked
import GoSem.Claim
import GoSem.ClaimJoined
import GoSem.ClaimMapViews
import Derived.JoinedTies
import Derived.KernelRfl
namespace Go.Proofs.Ybulkkha
/- THE CELL 'sum', in the pinned program and in every row, IS THE sha256 OF THE DUMP (.gsa) THAT YbulkkhaProg.lean LOADS. Nothing in Lean hashes anything: it is a label: what it is worth is what the hold of that sum in a sandbox is worth. -/
noncomputable def Yba.pinned : Pinned := { name := "ybulkkha", sum := "42c9d9d78faab045a70c8f9e1e406fd12f4323ca6fdd9a8de51d7e36832105ef", checked := Yba.checked }
namespace Rows
def none {H : Type} : Left H := { results := [], args := [] }

/-- 'reckoner.LawS0546AModel': WHATEVER THE INPUT: true; the input reads as it did. -/
def lawS0546AModelSpec : ChangeSpec := { name := "lawS0546AModel", fn := fun _ => fun
  | [d] => { results := [.lit (.bool true)], args := [d] }
  | _ => none }
def lawS0546AModelRow : OpenClaim := { program := "ybulkkha", sum := "42c9d9d78faab045a70c8f9e1e406fd12f4323ca6fdd9a8de51d7e36832105ef", func := "example.com/reckoner/reckoner.LawS0546AModel", spec := "lawS0546AModel", apart := false }
def LawS0546AModelSaid : Prop := lawS0546AModelRow.holds Yba.pinned (OpenSpec.ofChange lawS0546AModelSpec)

/-- ITS FALSE NEIGHBOUR: 'it returns false'. Refute it at one input. -/
def lawS0546AModelWrong : ChangeSpec := { name := "lawS0546AModel", fn := fun _ => fun
  | [d] => { results := [.lit (.bool false)], args := [d] }
  | _ => none }
def LawS0546AModelWrongFalsely : Prop := lawS0546AModelRow.holds Yba.pinned (OpenSpec.ofChange lawS0546AModelWrong)

/-- 'reckoner.LawS0546APrefix': WHATEVER THE INPUT: true; the input reads as it did. -/
def lawS0546APrefixSpec : ChangeSpec := { name := "lawS0546APrefix", fn := fun _ => fun
  | [d1, d2, d3] => { results := [.lit (.bool true)], args := [d1, d2, d3] }
  | _ => none }
def lawS0546APrefixRow : OpenClaim := { program := "ybulkkha", sum := "42c9d9d78faab045a70c8f9e1e406fd12f4323ca6fdd9a8de51d7e36832105ef", func := "example.com/reckoner/reckoner.LawS0546APrefix", spec := "lawS0546APrefix", apart := false }
def LawS0546APrefixSaid : Prop := lawS0546APrefixRow.holds Yba.pinned (OpenSpec.ofChange lawS0546APrefixSpec)

/-- ITS FALSE NEIGHBOUR: 'it returns false'. Refute it at one input. -/
def lawS0546APrefixWrong : ChangeSpec := { name := "lawS0546APrefix", fn := fun _ => fun
  | [d1, d2, d3] => { results := [.lit (.bool false)], args := [d1, d2, d3] }
  | _ => none }
def LawS0546APrefixWrongFalsely : Prop := lawS0546APrefixRow.holds Yba.pinned (OpenSpec.ofChange lawS0546APrefixWrong)

/-- 'reckoner.LawS0546BFloatBits': WHATEVER THE INPUT: true; the input reads as it did. -/
def lawS0546BFloatBitsSpec : ChangeSpec := { name := "lawS0546BFloatBits", fn := fun _ => fun
  | [d1, d2] => { results := [.lit (.bool true)], args := [d1, d2] }
  | _ => none }
def lawS0546BFloatBitsRow : OpenClaim := { program := "ybulkkha", sum := "42c9d9d78faab045a70c8f9e1e406fd12f4323ca6fdd9a8de51d7e36832105ef", func := "example.com/reckoner/reckoner.LawS0546BFloatBits", spec := "lawS0546BFloatBits", inPlace := ["math.Float64frombits", "math.Float64bits"], apart := false }
def LawS0546BFloatBitsSaid : Prop := lawS0546BFloatBitsRow.holds Yba.pinned (OpenSpec.ofChange lawS0546BFloatBitsSpec)

/-- ITS FALSE NEIGHBOUR: 'it returns false'. Refute it at one input. -/
def lawS0546BFloatBitsWrong : ChangeSpec := { name := "lawS0546BFloatBits", fn := fun _ => fun
  | [d1, d2] => { results := [.lit (.bool false)], args := [d1, d2] }
  | _ => none }
def LawS0546BFloatBitsWrongFalsely : Prop := lawS0546BFloatBitsRow.holds Yba.pinned (OpenSpec.ofChange lawS0546BFloatBitsWrong)

/-- 'reckoner.LawS0546BIntExact': WHATEVER THE INPUT: true; the input reads as it did. -/
def lawS0546BIntExactSpec : ChangeSpec := { name := "lawS0546BIntExact", fn := fun _ => fun
  | [d1, d2] => { results := [.lit (.bool true)], args := [d1, d2] }
  | _ => none }
def lawS0546BIntExactRow : OpenClaim := { program := "ybulkkha", sum := "42c9d9d78faab045a70c8f9e1e406fd12f4323ca6fdd9a8de51d7e36832105ef", func := "example.com/reckoner/reckoner.LawS0546BIntExact", spec := "lawS0546BIntExact", inPlace := ["math.Float64frombits", "math.archTrunc", "math.Float64bits"], apart := false }
def LawS0546BIntExactSaid : Prop := lawS0546BIntExactRow.holds Yba.pinned (OpenSpec.ofChange lawS0546BIntExactSpec)

/-- ITS FALSE NEIGHBOUR: 'it returns false'. Refute it at one input. -/
def lawS0546BIntExactWrong : ChangeSpec := { name := "lawS0546BIntExact", fn := fun _ => fun
  | [d1, d2] => { results := [.lit (.bool false)], args := [d1, d2] }
  | _ => none }
def LawS0546BIntExactWrongFalsely : Prop := lawS0546BIntExactRow.holds Yba.pinned (OpenSpec.ofChange lawS0546BIntExactWrong)

/-- 'reckoner.LawS0546BIsZeroAgrees': WHATEVER THE INPUT: true; the input reads as it did. -/
def lawS0546BIsZeroAgreesSpec : ChangeSpec := { name := "lawS0546BIsZeroAgrees", fn := fun _ => fun
  | [d] => { results := [.lit (.bool true)], args := [d] }
  | _ => none }
def lawS0546BIsZeroAgreesRow : OpenClaim := { program := "ybulkkha", sum := "42c9d9d78faab045a70c8f9e1e406fd12f4323ca6fdd9a8de51d7e36832105ef", func := "example.com/reckoner/reckoner.LawS0546BIsZeroAgrees", spec := "lawS0546BIsZeroAgrees", inPlace := ["math.Float64frombits"], apart := false }
def LawS0546BIsZeroAgreesSaid : Prop := lawS0546BIsZeroAgreesRow.holds Yba.pinned (OpenSpec.ofChange lawS0546BIsZeroAgreesSpec)

/-- ITS FALSE NEIGHBOUR: 'it returns false'. Refute it at one input. -/
def lawS0546BIsZeroAgreesWrong : ChangeSpec := { name := "lawS0546BIsZeroAgrees", fn := fun _ => fun
  | [d] => { results := [.lit (.bool false)], args := [d] }
  | _ => none }
def LawS0546BIsZeroAgreesWrongFalsely : Prop := lawS0546BIsZeroAgreesRow.holds Yba.pinned (OpenSpec.ofChange lawS0546BIsZeroAgreesWrong)

end Rows
end Go.Proofs.Ybulkkha
