/-
  No cell of these rows narrows 'for every input' (looked for: loops, veiled, ifaces, maps, wideKeys, modest, calm, conditions, laid).
  DERIVED. THE GIVEN ROWS OF THIS SEAT. 2 by the template 'for every input the law returns true; each argument reads behind the call as it read before'; 0 by the template 'total and deterministic' (their statements: YbulkcfbeTotals.lean).
  GIVEN WITH THE SEED: the statements are not yours to turn. If you find one false, say at which input.
  Laid BY PROGRAM, IN A SANDBOX (cutbox-rows.mjs): the forced cells as the released guide's own fill.sh prints them over the translation d1a32b0aae12d6a6… (all of the seat's roots in one cut). By AI agents, Wed Nov 11 2026. No macro, syntax, notation, axiom, sorry.
-/
import Derived.Test.YbulkcfbeChecked
import GoSem.Claim
import GoSem.ClaimJoined
import GoSem.ClaimMapViews
import Derived.JoinedTies
import Derived.KernelRfl
namespace Go.Proofs.Ybulkcfbe
/- THE CELL 'sum', in the pinned program and in every row, IS THE sha256 OF THE DUMP (.gsa) THAT YbulkcfbeProg.lean LOADS. Nothing in Lean hashes anything: it is a label: what it is worth is what the hold of that sum in a sandbox is worth. -/
noncomputable def Yba.pinned : Pinned := { name := "ybulkcfbe", sum := "d1a32b0aae12d6a6a0eeabab9795dfa2669f47e59b41bb23563f07e496e5ebbb", checked := Yba.checked }
namespace Rows
def none {H : Type} : Left H := { results := [], args := [] }

/-- 'forwarder.LawS4060ATake': WHATEVER THE INPUT: true; the input reads as it did. -/
def lawS4060ATakeSpec : ChangeSpec := { name := "lawS4060ATake", fn := fun _ => fun
  | [d1, d2, d3, d4, d5, d6, d7] => { results := [.lit (.bool true)], args := [d1, d2, d3, d4, d5, d6, d7] }
  | _ => none }
def lawS4060ATakeRow : OpenClaim := { program := "ybulkcfbe", sum := "d1a32b0aae12d6a6a0eeabab9795dfa2669f47e59b41bb23563f07e496e5ebbb", func := "example.com/nameward/nameward/internal/forwarder.LawS4060ATake", spec := "lawS4060ATake", apart := false }
def LawS4060ATakeSaid : Prop := lawS4060ATakeRow.holds Yba.pinned (OpenSpec.ofChange lawS4060ATakeSpec)

/-- ITS FALSE NEIGHBOUR: 'it returns false'. Refute it at one input. -/
def lawS4060ATakeWrong : ChangeSpec := { name := "lawS4060ATake", fn := fun _ => fun
  | [d1, d2, d3, d4, d5, d6, d7] => { results := [.lit (.bool false)], args := [d1, d2, d3, d4, d5, d6, d7] }
  | _ => none }
def LawS4060ATakeWrongFalsely : Prop := lawS4060ATakeRow.holds Yba.pinned (OpenSpec.ofChange lawS4060ATakeWrong)

/-- 'forwarder.LawS4060BTakeAll': WHATEVER THE INPUT: true; the input reads as it did. -/
def lawS4060BTakeAllSpec : ChangeSpec := { name := "lawS4060BTakeAll", fn := fun _ => fun
  | [d1, d2, d3, d4] => { results := [.lit (.bool true)], args := [d1, d2, d3, d4] }
  | _ => none }
def lawS4060BTakeAllRow : OpenClaim := { program := "ybulkcfbe", sum := "d1a32b0aae12d6a6a0eeabab9795dfa2669f47e59b41bb23563f07e496e5ebbb", func := "example.com/nameward/nameward/internal/forwarder.LawS4060BTakeAll", spec := "lawS4060BTakeAll", recurses := true, apart := false }
def LawS4060BTakeAllSaid : Prop := lawS4060BTakeAllRow.holds Yba.pinned (OpenSpec.ofChange lawS4060BTakeAllSpec)

/-- ITS FALSE NEIGHBOUR: 'it returns false'. Refute it at one input. -/
def lawS4060BTakeAllWrong : ChangeSpec := { name := "lawS4060BTakeAll", fn := fun _ => fun
  | [d1, d2, d3, d4] => { results := [.lit (.bool false)], args := [d1, d2, d3, d4] }
  | _ => none }
def LawS4060BTakeAllWrongFalsely : Prop := lawS4060BTakeAllRow.holds Yba.pinned (OpenSpec.ofChange lawS4060BTakeAllWrong)

end Rows
end Go.Proofs.Ybulkcfbe
