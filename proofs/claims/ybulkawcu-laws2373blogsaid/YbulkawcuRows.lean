/-
  No cell of these rows narrows 'for every input' (looked for: loops, veiled, ifaces, maps, wideKeys, modest, calm, conditions, laid).
  DERIVED. THE GIVEN ROWS OF THIS SEAT. 1 by the template 'for every input the law returns true; each argument reads behind the call as it read before'; 0 by the template 'total and deterministic' (their statements: YbulkawcuTotals.lean).
  GIVEN WITH THE SEED: the statements are not yours to turn. If you find one false, say at which input.
  Laid BY PROGRAM, IN A SANDBOX (cutbox-rows.mjs): the forced cells as the released guide's own fill.sh prints them over the translation d461c7cf13a1123b… (all of the seat's roots in one cut). By AI agents, Wed Nov 11 2026. No macro, syntax, notation, axiom, sorry.
-/
import Derived.Test.YbulkawcuChecked
import GoSem.Claim
import GoSem.ClaimJoined
import GoSem.ClaimMapViews
import Derived.JoinedTies
import Derived.KernelRfl
namespace Go.Proofs.Ybulkawcu
/- THE CELL 'sum', in the pinned program and in every row, IS THE sha256 OF THE DUMP (.gsa) THAT YbulkawcuProg.lean LOADS. Nothing in Lean hashes anything: it is a label: what it is worth is what the hold of that sum in a sandbox is worth. -/
noncomputable def Yba.pinned : Pinned := { name := "ybulkawcu", sum := "d461c7cf13a1123bb292743e8927ac0cae6696cb167418f27e68e0a82c126fbd", checked := Yba.checked }
namespace Rows
def none {H : Type} : Left H := { results := [], args := [] }

/-- 'gen.LawS2373BLog': WHATEVER THE INPUT: true; the input reads as it did. -/
def lawS2373BLogSpec : ChangeSpec := { name := "lawS2373BLog", fn := fun _ => fun
  | [d1, d2] => { results := [.lit (.bool true)], args := [d1, d2] }
  | _ => none }
def lawS2373BLogRow : OpenClaim := { program := "ybulkawcu", sum := "d461c7cf13a1123bb292743e8927ac0cae6696cb167418f27e68e0a82c126fbd", func := "example.com/tenon/tenon/internal/gen.LawS2373BLog", spec := "lawS2373BLog", unfollowed := true, recurses := true, apart := false }
def LawS2373BLogSaid : Prop := lawS2373BLogRow.holds Yba.pinned (OpenSpec.ofChange lawS2373BLogSpec)

/-- ITS FALSE NEIGHBOUR: 'it returns false'. Refute it at one input. -/
def lawS2373BLogWrong : ChangeSpec := { name := "lawS2373BLog", fn := fun _ => fun
  | [d1, d2] => { results := [.lit (.bool false)], args := [d1, d2] }
  | _ => none }
def LawS2373BLogWrongFalsely : Prop := lawS2373BLogRow.holds Yba.pinned (OpenSpec.ofChange lawS2373BLogWrong)

end Rows
end Go.Proofs.Ybulkawcu
