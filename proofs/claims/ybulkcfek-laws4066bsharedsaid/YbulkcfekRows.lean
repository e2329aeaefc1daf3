/-
  No cell of these rows narrows 'for every input' (looked for: loops, veiled, ifaces, maps, wideKeys, modest, calm, conditions, laid).
  DERIVED. THE GIVEN ROWS OF THIS SEAT. 3 by the template 'for every input the law returns true; each argument reads behind the call as it read before'; 0 by the template 'total and deterministic' (their statements: YbulkcfekTotals.lean).
  GIVEN WITH THE SEED: the statements are not yours to turn. If you find one false, say at which input.
  Laid BY PROGRAM, IN A SANDBOX (cutbox-rows.mjs): the forced cells as the released guide's own fill.sh prints them over the translation a285743493dbbc93… (all of the seat's roots in one cut). By AI agents, Wed Nov 11 2026. No macro, syntax, notation, axiom, sorry.
-/
import Derived.Test.YbulkcfekChecked
import GoSem.Claim
import GoSem.ClaimJoined
import GoSem.ClaimMapViews
import Derived.JoinedTies
import Derived.KernelRfl
namespace Go.Proofs.Ybulkcfek
/- THE CELL 'sum', in the pinned program and in every row, IS THE sha256 OF THE DUMP (.gsa) THAT YbulkcfekProg.lean LOADS. Nothing in Lean hashes anything: it is a label: what it is worth is what the hold of that sum in a sandbox is worth. -/
noncomputable def Yba.pinned : Pinned := { name := "ybulkcfek", sum := "a285743493dbbc93bd4d2f08b3c0af85af9e3fae691da954f7500f29a8c65804", checked := Yba.checked }
namespace Rows
def none {H : Type} : Left H := { results := [], args := [] }

/-- 'groupfold.LawS4066AModel': WHATEVER THE INPUT: true; the input reads as it did. -/
def lawS4066AModelSpec : ChangeSpec := { name := "lawS4066AModel", fn := fun _ => fun
  | [d1, d2, d3, d4, d5] => { results := [.lit (.bool true)], args := [d1, d2, d3, d4, d5] }
  | _ => none }
def lawS4066AModelRow : OpenClaim := { program := "ybulkcfek", sum := "a285743493dbbc93bd4d2f08b3c0af85af9e3fae691da954f7500f29a8c65804", func := "example.com/groupfold/groupfold.LawS4066AModel", spec := "lawS4066AModel", apart := false }
def LawS4066AModelSaid : Prop := lawS4066AModelRow.holds Yba.pinned (OpenSpec.ofChange lawS4066AModelSpec)

/-- ITS FALSE NEIGHBOUR: 'it returns false'. Refute it at one input. -/
def lawS4066AModelWrong : ChangeSpec := { name := "lawS4066AModel", fn := fun _ => fun
  | [d1, d2, d3, d4, d5] => { results := [.lit (.bool false)], args := [d1, d2, d3, d4, d5] }
  | _ => none }
def LawS4066AModelWrongFalsely : Prop := lawS4066AModelRow.holds Yba.pinned (OpenSpec.ofChange lawS4066AModelWrong)

/-- 'groupfold.LawS4066BSmall': WHATEVER THE INPUT: true; the input reads as it did. -/
def lawS4066BSmallSpec : ChangeSpec := { name := "lawS4066BSmall", fn := fun _ => fun
  | [d1, d2] => { results := [.lit (.bool true)], args := [d1, d2] }
  | _ => none }
def lawS4066BSmallRow : OpenClaim := { program := "ybulkcfek", sum := "a285743493dbbc93bd4d2f08b3c0af85af9e3fae691da954f7500f29a8c65804", func := "example.com/groupfold/groupfold.LawS4066BSmall", spec := "lawS4066BSmall", apart := false }
def LawS4066BSmallSaid : Prop := lawS4066BSmallRow.holds Yba.pinned (OpenSpec.ofChange lawS4066BSmallSpec)

/-- ITS FALSE NEIGHBOUR: 'it returns false'. Refute it at one input. -/
def lawS4066BSmallWrong : ChangeSpec := { name := "lawS4066BSmall", fn := fun _ => fun
  | [d1, d2] => { results := [.lit (.bool false)], args := [d1, d2] }
  | _ => none }
def LawS4066BSmallWrongFalsely : Prop := lawS4066BSmallRow.holds Yba.pinned (OpenSpec.ofChange lawS4066BSmallWrong)

/-- 'groupfold.LawS4066BShared': WHATEVER THE INPUT: true; the input reads as it did. -/
def lawS4066BSharedSpec : ChangeSpec := { name := "lawS4066BShared", fn := fun _ => fun
  | [d1, d2, d3, d4] => { results := [.lit (.bool true)], args := [d1, d2, d3, d4] }
  | _ => none }
def lawS4066BSharedRow : OpenClaim := { program := "ybulkcfek", sum := "a285743493dbbc93bd4d2f08b3c0af85af9e3fae691da954f7500f29a8c65804", func := "example.com/groupfold/groupfold.LawS4066BShared", spec := "lawS4066BShared", inPlace := ["math/big.lshVU", "math/big.addVV", "math/bits.Add64", "math/big.subVV", "math/bits.Sub64"], recurses := true, apart := false }
def LawS4066BSharedSaid : Prop := lawS4066BSharedRow.holds Yba.pinned (OpenSpec.ofChange lawS4066BSharedSpec)

/-- ITS FALSE NEIGHBOUR: 'it returns false'. Refute it at one input. -/
def lawS4066BSharedWrong : ChangeSpec := { name := "lawS4066BShared", fn := fun _ => fun
  | [d1, d2, d3, d4] => { results := [.lit (.bool false)], args := [d1, d2, d3, d4] }
  | _ => none }
def LawS4066BSharedWrongFalsely : Prop := lawS4066BSharedRow.holds Yba.pinned (OpenSpec.ofChange lawS4066BSharedWrong)

end Rows
end Go.Proofs.Ybulkcfek
