/-
  No cell of these rows narrows 'for every input' (looked for: loops, veiled, ifaces, maps, wideKeys, modest, calm, conditions, laid).
  DERIVED. THE GIVEN ROWS OF THIS SEAT. 1 by the template 'for every input the law returns true; each argument reads behind the call as it read before'; 0 by the template 'total and deterministic' (their statements: YbulkavzaTotals.lean).
  GIVEN WITH THE SEED: the statements are not yours to turn. If you find one false, say at which input.
  Laid BY PROGRAM, IN A SANDBOX (cutbox-rows.mjs): the forced cells as the released guide's own fill.sh prints them over the translation 0ccb57c1bfd8d3ea… (all of the seat's roots in one cut). By AI agents, Wed Nov 11 2026. No macro, syntax, notation, axiom, sorry.
-/
import Derived.Test.YbulkavzaChecked
import GoSem.Claim
import GoSem.ClaimJoined
import GoSem.ClaimMapViews
import Derived.JoinedTies
import Derived.KernelRfl
namespace Go.Proofs.Ybulkavza
/- THE CELL 'sum', in the pinned program and in every row, IS THE sha256 OF THE DUMP (.gsa) THAT YbulkavzaProg.lean LOADS. Nothing in Lean hashes anything: it is a label: what it is worth is what the hold of that sum in a sandbox is worth. -/
noncomputable def Yba.pinned : Pinned := { name := "ybulkavza", sum := "0ccb57c1bfd8d3eaebedc04445e4f68ef50f84fef2e28168401bb52415c4f7dc", checked := Yba.checked }
namespace Rows
def none {H : Type} : Left H := { results := [], args := [] }

/-- 'notation.LawS2366BSizes': WHATEVER THE INPUT: true; the input reads as it did. -/
def lawS2366BSizesSpec : ChangeSpec := { name := "lawS2366BSizes", fn := fun _ => fun
  | [d1, d2, d3] => { results := [.lit (.bool true)], args := [d1, d2, d3] }
  | _ => none }
def lawS2366BSizesRow : OpenClaim := { program := "ybulkavza", sum := "0ccb57c1bfd8d3eaebedc04445e4f68ef50f84fef2e28168401bb52415c4f7dc", func := "example.com/tagwright/tagwright/notation.LawS2366BSizes", spec := "lawS2366BSizes", apart := false }
def LawS2366BSizesSaid : Prop := lawS2366BSizesRow.holds Yba.pinned (OpenSpec.ofChange lawS2366BSizesSpec)

/-- ITS FALSE NEIGHBOUR: 'it returns false'. Refute it at one input. -/
def lawS2366BSizesWrong : ChangeSpec := { name := "lawS2366BSizes", fn := fun _ => fun
  | [d1, d2, d3] => { results := [.lit (.bool false)], args := [d1, d2, d3] }
  | _ => none }
def LawS2366BSizesWrongFalsely : Prop := lawS2366BSizesRow.holds Yba.pinned (OpenSpec.ofChange lawS2366BSizesWrong)

end Rows
end Go.Proofs.Ybulkavza
