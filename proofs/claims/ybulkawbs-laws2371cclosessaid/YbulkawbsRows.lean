/-
  No cell of these rows narrows 'for every input' (looked for: loops, veiled, ifaces, maps, wideKeys, modest, calm, conditions, laid).
  DERIVED. THE GIVEN ROWS OF THIS SEAT. 2 by the template 'for every input the law returns true; each argument reads behind the call as it read before'; 0 by the template 'total and deterministic' (their statements: YbulkawbsTotals.lean).
  GIVEN WITH THE SEED: the statements are not yours to turn. If you find one false, say at which input.
  Laid BY PROGRAM, IN A SANDBOX (cutbox-rows.mjs): the forced cells as the released guide's own fill.sh prints them over the translation e05b12e1207a4275… (all of the seat's roots in one cut). By AI agents, Wed Nov 11 2026. No macro, syntax, notation, axiom, sorry.
-/
import Derived.Test.YbulkawbsChecked
import GoSem.Claim
import GoSem.ClaimJoined
import GoSem.ClaimMapViews
import Derived.JoinedTies
import Derived.KernelRfl
namespace Go.Proofs.Ybulkawbs
/- THE CELL 'sum', in the pinned program and in every row, IS THE sha256 OF THE DUMP (.gsa) THAT YbulkawbsProg.lean LOADS. Nothing in Lean hashes anything: it is a label: what it is worth is what the hold of that sum in a sandbox is worth. -/
noncomputable def Yba.pinned : Pinned := { name := "ybulkawbs", sum := "e05b12e1207a4275233c5ac05f4c3d4d148533f4dfa98e8211c52670d1581977", checked := Yba.checked }
namespace Rows
def none {H : Type} : Left H := { results := [], args := [] }

/-- 'tickwise.LawS2371AExact': WHATEVER THE INPUT: true; the input reads as it did. -/
def lawS2371AExactSpec : ChangeSpec := { name := "lawS2371AExact", fn := fun _ => fun
  | [d1, d2, d3, d4] => { results := [.lit (.bool true)], args := [d1, d2, d3, d4] }
  | _ => none }
def lawS2371AExactRow : OpenClaim := { program := "ybulkawbs", sum := "e05b12e1207a4275233c5ac05f4c3d4d148533f4dfa98e8211c52670d1581977", func := "example.com/tickwise/tickwise.LawS2371AExact", spec := "lawS2371AExact", plainKeys := false, apart := false }
def LawS2371AExactSaid : Prop := lawS2371AExactRow.holds Yba.pinned (OpenSpec.ofChange lawS2371AExactSpec)

/-- ITS FALSE NEIGHBOUR: 'it returns false'. Refute it at one input. -/
def lawS2371AExactWrong : ChangeSpec := { name := "lawS2371AExact", fn := fun _ => fun
  | [d1, d2, d3, d4] => { results := [.lit (.bool false)], args := [d1, d2, d3, d4] }
  | _ => none }
def LawS2371AExactWrongFalsely : Prop := lawS2371AExactRow.holds Yba.pinned (OpenSpec.ofChange lawS2371AExactWrong)

/-- 'tickwise.LawS2371CCloses': WHATEVER THE INPUT: true; the input reads as it did. -/
def lawS2371CClosesSpec : ChangeSpec := { name := "lawS2371CCloses", fn := fun _ => fun
  | [d1, d2, d3] => { results := [.lit (.bool true)], args := [d1, d2, d3] }
  | _ => none }
def lawS2371CClosesRow : OpenClaim := { program := "ybulkawbs", sum := "e05b12e1207a4275233c5ac05f4c3d4d148533f4dfa98e8211c52670d1581977", func := "example.com/tickwise/tickwise.LawS2371CCloses", spec := "lawS2371CCloses", plainKeys := false, apart := false }
def LawS2371CClosesSaid : Prop := lawS2371CClosesRow.holds Yba.pinned (OpenSpec.ofChange lawS2371CClosesSpec)

/-- ITS FALSE NEIGHBOUR: 'it returns false'. Refute it at one input. -/
def lawS2371CClosesWrong : ChangeSpec := { name := "lawS2371CCloses", fn := fun _ => fun
  | [d1, d2, d3] => { results := [.lit (.bool false)], args := [d1, d2, d3] }
  | _ => none }
def LawS2371CClosesWrongFalsely : Prop := lawS2371CClosesRow.holds Yba.pinned (OpenSpec.ofChange lawS2371CClosesWrong)

end Rows
end Go.Proofs.Ybulkawbs
