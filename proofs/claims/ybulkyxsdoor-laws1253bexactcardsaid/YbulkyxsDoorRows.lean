/-
  NARROWER THAN 'FOR EVERY INPUT', by the rows' own cells (each row's printed sentence says how): LawS1253BExact: laid · LawS1253BNoneHeld: laid.
  DERIVED. THE GIVEN ROWS OF THIS SEAT. 2 by the template 'for every input the law returns true; each argument reads behind the call as it read before'; 0 by the template 'total and deterministic' (their statements: YbulkyxsDoorTotals.lean).
  GIVEN WITH THE SEED: the statements are not yours to turn. If you find one false, say at which input.
  Laid BY PROGRAM, IN A SANDBOX (cutbox-rows.mjs): the forced cells as the released guide's own fill.sh prints them over the translation fd8c5429354c54fe… (all of the seat's roots in one cut). By AI agents, Wed Nov 11 2026. No macro, syntax, notation, axiom, sorry.
-/
import Derived.Test.YbulkyxsDoorChecked
import GoSem.Claim
import GoSem.ClaimJoined
import GoSem.ClaimMapViews
import Derived.JoinedTies
import Derived.KernelRfl
namespace Go.Proofs.YbulkyxsDoor
/- THE CELL 'sum', in the pinned program and in every row, IS THE sha256 OF THE DUMP (.gsa) THAT YbulkyxsDoorProg.lean LOADS. Nothing in Lean hashes anything: it is a label: what it is worth is what the hold of that sum in a sandbox is worth. -/
noncomputable def Ybad.pinned : Pinned := { name := "ybulkyxsdoor", sum := "fd8c5429354c54febf8cbac639ab4d0e6e49b3b418b2eae9810aeef04c7a5013", checked := Ybad.checked }
namespace Rows
def none {H : Type} : Left H := { results := [], args := [] }

/- WHAT THE LISTED PACKAGE-LEVEL VARIABLES READ AS WHEN THE CALL BEGINS. Each datum BY PROGRAM (the guide's laid-datum.mjs) off the statement by which the dump's own 'gosem.cut.vars' lays the variable. In a bare row this is a premise. The card (YbulkyxsDoorCards.lean) ties it to the program's text. -/
def laid_example_com_interlace_interlace_internal_lockmode_joined {H : Type} : DataW H := .agg [.agg [.lit (.int .i8 0), .lit (.int .i8 0), .lit (.int .i8 0), .lit (.int .i8 0), .lit (.int .i8 0)], .agg [.lit (.int .i8 0), .lit (.int .i8 1), .lit (.int .i8 2), .lit (.int .i8 3), .lit (.int .i8 2)], .agg [.lit (.int .i8 0), .lit (.int .i8 2), .lit (.int .i8 2), .lit (.int .i8 2), .lit (.int .i8 2)], .agg [.lit (.int .i8 0), .lit (.int .i8 3), .lit (.int .i8 2), .lit (.int .i8 3), .lit (.int .i8 2)], .agg [.lit (.int .i8 0), .lit (.int .i8 2), .lit (.int .i8 2), .lit (.int .i8 2), .lit (.int .i8 4)]]

/-- 'interlace.LawS1253BExact': WHATEVER THE INPUT: true; the input reads as it did. -/
def lawS1253BExactSpec : ChangeSpec := { name := "lawS1253BExact", vars := ["example.com/interlace/interlace/internal/lockmode.joined"], fn := fun _ => fun
  | [d1, d2, d3, d4, g1] => { results := [.lit (.bool true)], args := [d1, d2, d3, d4], vars := [g1] }
  | _ => none }
def lawS1253BExactRow : OpenClaim := { program := "ybulkyxsdoor", sum := "fd8c5429354c54febf8cbac639ab4d0e6e49b3b418b2eae9810aeef04c7a5013", func := "example.com/interlace/interlace.LawS1253BExact", spec := "lawS1253BExact", named := ["example.com/interlace/interlace/internal/lockmode.joined"], plainKeys := false, apart := false, laid := [("example.com/interlace/interlace/internal/lockmode.joined", laid_example_com_interlace_interlace_internal_lockmode_joined)] }
def LawS1253BExactSaid : Prop := lawS1253BExactRow.holds Ybad.pinned (OpenSpec.ofChange lawS1253BExactSpec)

/-- ITS FALSE NEIGHBOUR: 'it returns false'. Refute it at one input. -/
def lawS1253BExactWrong : ChangeSpec := { name := "lawS1253BExact", vars := ["example.com/interlace/interlace/internal/lockmode.joined"], fn := fun _ => fun
  | [d1, d2, d3, d4, g1] => { results := [.lit (.bool false)], args := [d1, d2, d3, d4], vars := [g1] }
  | _ => none }
def LawS1253BExactWrongFalsely : Prop := lawS1253BExactRow.holds Ybad.pinned (OpenSpec.ofChange lawS1253BExactWrong)

/-- 'interlace.LawS1253BNoneHeld': WHATEVER THE INPUT: true; the input reads as it did. -/
def lawS1253BNoneHeldSpec : ChangeSpec := { name := "lawS1253BNoneHeld", vars := ["example.com/interlace/interlace/internal/lockmode.joined"], fn := fun _ => fun
  | [d1, d2, d3, d4, g1] => { results := [.lit (.bool true)], args := [d1, d2, d3, d4], vars := [g1] }
  | _ => none }
def lawS1253BNoneHeldRow : OpenClaim := { program := "ybulkyxsdoor", sum := "fd8c5429354c54febf8cbac639ab4d0e6e49b3b418b2eae9810aeef04c7a5013", func := "example.com/interlace/interlace.LawS1253BNoneHeld", spec := "lawS1253BNoneHeld", named := ["example.com/interlace/interlace/internal/lockmode.joined"], plainKeys := false, apart := false, laid := [("example.com/interlace/interlace/internal/lockmode.joined", laid_example_com_interlace_interlace_internal_lockmode_joined)] }
def LawS1253BNoneHeldSaid : Prop := lawS1253BNoneHeldRow.holds Ybad.pinned (OpenSpec.ofChange lawS1253BNoneHeldSpec)

/-- ITS FALSE NEIGHBOUR: 'it returns false'. Refute it at one input. -/
def lawS1253BNoneHeldWrong : ChangeSpec := { name := "lawS1253BNoneHeld", vars := ["example.com/interlace/interlace/internal/lockmode.joined"], fn := fun _ => fun
  | [d1, d2, d3, d4, g1] => { results := [.lit (.bool false)], args := [d1, d2, d3, d4], vars := [g1] }
  | _ => none }
def LawS1253BNoneHeldWrongFalsely : Prop := lawS1253BNoneHeldRow.holds Ybad.pinned (OpenSpec.ofChange lawS1253BNoneHeldWrong)

end Rows
end Go.Proofs.YbulkyxsDoor
