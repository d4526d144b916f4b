/-
  NARROWER THAN 'FOR EVERY INPUT', by the rows' own cells (each row's printed sentence says how): LawS2372CSigned: maps, laid · LawS2372CFresh: maps, laid.
  DERIVED. THE GIVEN ROWS OF THIS SEAT. 2 by the template 'for every input the law returns true; each argument reads behind the call as it read before'; 0 by the template 'total and deterministic' (their statements: YbulkawcgDoorTotals.lean).
  GIVEN WITH THE SEED: the statements are not yours to turn. If you find one false, say at which input.
  Laid BY PROGRAM, IN A SANDBOX (cutbox-rows.mjs): the forced cells as the released guide's own fill.sh prints them over the translation fa79e4d174703b25… (all of the seat's roots in one cut). By AI agents, Wed Nov 11 2026. No macro, syntax, notation, axiom, sorry.
-/
import Derived.Test.YbulkawcgDoorChecked
import GoSem.Claim
import GoSem.ClaimJoined
import GoSem.ClaimMapViews
import Derived.JoinedTies
import Derived.KernelRfl
namespace Go.Proofs.YbulkawcgDoor
/- THE CELL 'sum', in the pinned program and in every row, IS THE sha256 OF THE DUMP (.gsa) THAT YbulkawcgDoorProg.lean LOADS. Nothing in Lean hashes anything: it is a label: what it is worth is what the hold of that sum in a sandbox is worth. -/
noncomputable def Ybad.pinned : Pinned := { name := "ybulkawcgdoor", sum := "fa79e4d174703b257391158994dd29dcf59f622d7a1688255f8f29128f460daa", checked := Ybad.checked }
namespace Rows
def none {H : Type} : Left H := { results := [], args := [] }

/- WHAT THE LISTED PACKAGE-LEVEL VARIABLES READ AS WHEN THE CALL BEGINS. Each datum BY PROGRAM (the guide's laid-datum.mjs) off the statement by which the dump's own 'gosem.cut.vars' lays the variable. In a bare row this is a premise. The card (YbulkawcgDoorCards.lean) ties it to the program's text. -/
def laid_example_com_parmark_parmark_pkg_fund_kindRules {H : Type} : DataW H := .map [(.string [99, 108, 101, 97, 114, 105, 110, 103, 45, 114, 101, 115, 101, 114, 118, 101], .agg [.lit (.bool false), .lit (.int .i64 1), .lit (.bool false), .lit (.bool false)]), (.string [100, 101, 109, 97, 110, 100, 45, 100, 101, 112, 111, 115, 105, 116], .agg [.lit (.bool false), .lit (.int .i64 1), .lit (.bool false), .lit (.bool true)]), (.string [109, 97, 114, 103, 105, 110], .agg [.lit (.bool false), .lit (.int .i64 1), .lit (.bool false), .lit (.bool false)]), (.string [110, 111, 116, 105, 99, 101, 45, 100, 101, 112, 111, 115, 105, 116], .agg [.lit (.bool false), .lit (.int .i64 4), .lit (.bool false), .lit (.bool true)]), (.string [111, 116, 104, 101, 114, 45, 97, 115, 115, 101, 116], .agg [.lit (.bool false), .lit (.int .i64 0), .lit (.bool false), .lit (.bool false)]), (.string [111, 116, 104, 101, 114, 45, 108, 105, 97, 98, 105, 108, 105, 116, 121], .agg [.lit (.bool true), .lit (.int .i64 0), .lit (.bool false), .lit (.bool false)]), (.string [114, 101, 112, 111], .agg [.lit (.bool true), .lit (.int .i64 2), .lit (.bool true), .lit (.bool false)]), (.string [114, 101, 118, 101, 114, 115, 101, 45, 114, 101, 112, 111], .agg [.lit (.bool false), .lit (.int .i64 2), .lit (.bool false), .lit (.bool false)]), (.string [115, 101, 116, 116, 108, 101, 109, 101, 110, 116, 45, 112, 97, 121, 97, 98, 108, 101], .agg [.lit (.bool true), .lit (.int .i64 0), .lit (.bool false), .lit (.bool false)]), (.string [115, 101, 116, 116, 108, 101, 109, 101, 110, 116, 45, 114, 101, 99, 101, 105, 118, 97, 98, 108, 101], .agg [.lit (.bool false), .lit (.int .i64 3), .lit (.bool false), .lit (.bool false)]), (.string [116, 105, 109, 101, 45, 100, 101, 112, 111, 115, 105, 116], .agg [.lit (.bool false), .lit (.int .i64 2), .lit (.bool false), .lit (.bool true)])]

/-- 'fund.LawS2372CSigned': WHATEVER THE INPUT: true; the input reads as it did. -/
def lawS2372CSignedSpec : ChangeSpec := { name := "lawS2372CSigned", vars := ["example.com/parmark/parmark/pkg/fund.kindRules"], fn := fun _ => fun
  | [d1, d2, d3, g1] => { results := [.lit (.bool true)], args := [d1, d2, d3], vars := [g1] }
  | _ => none }
def lawS2372CSignedRow : OpenClaim := { program := "ybulkawcgdoor", sum := "fa79e4d174703b257391158994dd29dcf59f622d7a1688255f8f29128f460daa", func := "example.com/parmark/parmark/pkg/fund.LawS2372CSigned", spec := "lawS2372CSigned", named := ["example.com/parmark/parmark/pkg/fund.kindRules"], maps := true, apart := false, laid := [("example.com/parmark/parmark/pkg/fund.kindRules", laid_example_com_parmark_parmark_pkg_fund_kindRules)] }
def LawS2372CSignedSaid : Prop := lawS2372CSignedRow.holds Ybad.pinned (OpenSpec.ofChange lawS2372CSignedSpec)

/-- ITS FALSE NEIGHBOUR: 'it returns false'. Refute it at one input. -/
def lawS2372CSignedWrong : ChangeSpec := { name := "lawS2372CSigned", vars := ["example.com/parmark/parmark/pkg/fund.kindRules"], fn := fun _ => fun
  | [d1, d2, d3, g1] => { results := [.lit (.bool false)], args := [d1, d2, d3], vars := [g1] }
  | _ => none }
def LawS2372CSignedWrongFalsely : Prop := lawS2372CSignedRow.holds Ybad.pinned (OpenSpec.ofChange lawS2372CSignedWrong)

/-- 'fund.LawS2372CFresh': WHATEVER THE INPUT: true; the input reads as it did. -/
def lawS2372CFreshSpec : ChangeSpec := { name := "lawS2372CFresh", vars := ["example.com/parmark/parmark/pkg/fund.kindRules"], fn := fun _ => fun
  | [d1, d2, d3, g1] => { results := [.lit (.bool true)], args := [d1, d2, d3], vars := [g1] }
  | _ => none }
def lawS2372CFreshRow : OpenClaim := { program := "ybulkawcgdoor", sum := "fa79e4d174703b257391158994dd29dcf59f622d7a1688255f8f29128f460daa", func := "example.com/parmark/parmark/pkg/fund.LawS2372CFresh", spec := "lawS2372CFresh", named := ["example.com/parmark/parmark/pkg/fund.kindRules"], maps := true, apart := false, laid := [("example.com/parmark/parmark/pkg/fund.kindRules", laid_example_com_parmark_parmark_pkg_fund_kindRules)] }
def LawS2372CFreshSaid : Prop := lawS2372CFreshRow.holds Ybad.pinned (OpenSpec.ofChange lawS2372CFreshSpec)

/-- ITS FALSE NEIGHBOUR: 'it returns false'. Refute it at one input. -/
def lawS2372CFreshWrong : ChangeSpec := { name := "lawS2372CFresh", vars := ["example.com/parmark/parmark/pkg/fund.kindRules"], fn := fun _ => fun
  | [d1, d2, d3, g1] => { results := [.lit (.bool false)], args := [d1, d2, d3], vars := [g1] }
  | _ => none }
def LawS2372CFreshWrongFalsely : Prop := lawS2372CFreshRow.holds Ybad.pinned (OpenSpec.ofChange lawS2372CFreshWrong)

end Rows
end Go.Proofs.YbulkawcgDoor
