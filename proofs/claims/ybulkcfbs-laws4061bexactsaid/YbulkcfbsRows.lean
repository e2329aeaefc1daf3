/-
  No cell of these rows narrows 'for every input' (looked for: loops, veiled, ifaces, maps, wideKeys, modest, calm, conditions, laid).
  DERIVED. THE GIVEN ROWS OF THIS SEAT. 2 by the template 'for every input the law returns true; each argument reads behind the call as it read before'; 0 by the template 'total and deterministic' (their statements: YbulkcfbsTotals.lean).
  GIVEN WITH THE SEED: the statements are not yours to turn. If you find one false, say at which input.
  Laid BY PROGRAM, IN A SANDBOX (cutbox-rows.mjs): the forced cells as the released guide's own fill.sh prints them over the translation 364dc5927ca288f0… (all of the seat's roots in one cut). By AI agents, Wed Nov 11 2026. No macro, syntax, notation, axiom, sorry.
-/
import Derived.Test.YbulkcfbsChecked
import GoSem.Claim
import GoSem.ClaimJoined
import GoSem.ClaimMapViews
import Derived.JoinedTies
import Derived.KernelRfl
namespace Go.Proofs.Ybulkcfbs
/- THE CELL 'sum', in the pinned program and in every row, IS THE sha256 OF THE DUMP (.gsa) THAT YbulkcfbsProg.lean LOADS. Nothing in Lean hashes anything: it is a label: what it is worth is what the hold of that sum in a sandbox is worth. -/
noncomputable def Yba.pinned : Pinned := { name := "ybulkcfbs", sum := "364dc5927ca288f0226e3f1bd67841d07353009e0acdd61dd139ef651242a7a0", checked := Yba.checked }
namespace Rows
def none {H : Type} : Left H := { results := [], args := [] }

/-- 'policy.LawS4061BExact': WHATEVER THE INPUT: true; the input reads as it did. -/
def lawS4061BExactSpec : ChangeSpec := { name := "lawS4061BExact", fn := fun _ => fun
  | [d] => { results := [.lit (.bool true)], args := [d] }
  | _ => none }
def lawS4061BExactRow : OpenClaim := { program := "ybulkcfbs", sum := "364dc5927ca288f0226e3f1bd67841d07353009e0acdd61dd139ef651242a7a0", func := "example.com/sound-policy/sound-policy/policy.LawS4061BExact", spec := "lawS4061BExact", apart := false }
def LawS4061BExactSaid : Prop := lawS4061BExactRow.holds Yba.pinned (OpenSpec.ofChange lawS4061BExactSpec)

/-- ITS FALSE NEIGHBOUR: 'it returns false'. Refute it at one input. -/
def lawS4061BExactWrong : ChangeSpec := { name := "lawS4061BExact", fn := fun _ => fun
  | [d] => { results := [.lit (.bool false)], args := [d] }
  | _ => none }
def LawS4061BExactWrongFalsely : Prop := lawS4061BExactRow.holds Yba.pinned (OpenSpec.ofChange lawS4061BExactWrong)

/-- 'policy.LawS4061BTrim': WHATEVER THE INPUT: true; the input reads as it did. -/
def lawS4061BTrimSpec : ChangeSpec := { name := "lawS4061BTrim", fn := fun _ => fun
  | [d] => { results := [.lit (.bool true)], args := [d] }
  | _ => none }
def lawS4061BTrimRow : OpenClaim := { program := "ybulkcfbs", sum := "364dc5927ca288f0226e3f1bd67841d07353009e0acdd61dd139ef651242a7a0", func := "example.com/sound-policy/sound-policy/policy.LawS4061BTrim", spec := "lawS4061BTrim", apart := false }
def LawS4061BTrimSaid : Prop := lawS4061BTrimRow.holds Yba.pinned (OpenSpec.ofChange lawS4061BTrimSpec)

/-- ITS FALSE NEIGHBOUR: 'it returns false'. Refute it at one input. -/
def lawS4061BTrimWrong : ChangeSpec := { name := "lawS4061BTrim", fn := fun _ => fun
  | [d] => { results := [.lit (.bool false)], args := [d] }
  | _ => none }
def LawS4061BTrimWrongFalsely : Prop := lawS4061BTrimRow.holds Yba.pinned (OpenSpec.ofChange lawS4061BTrimWrong)

end Rows
end Go.Proofs.Ybulkcfbs
