/-
  No cell of these rows narrows 'for every input' (looked for: loops, veiled, ifaces, maps, wideKeys, modest, calm, conditions, laid).
  DERIVED. THE GIVEN ROWS OF THIS SEAT. 1 by the template 'for every input the law returns true; each argument reads behind the call as it read before'; 0 by the template 'total and deterministic' (their statements: YbulkyzwTotals.lean).
  GIVEN WITH THE SEED: the statements are not yours to turn. If you find one false, say at which input.
  Laid BY PROGRAM, IN A SANDBOX (cutbox-rows.mjs): the forced cells as the released guide's own fill.sh prints them over the translation 8132a9a937f0b780… (all of the seat's roots in one cut). By AI agents, Wed Nov 11 2026. No macro, syntax, notation, axiom, sorry.
-/
import Derived.Test.YbulkyzwChecked
import GoSem.Claim
import GoSem.ClaimJoined
import GoSem.ClaimMapViews
import Derived.JoinedTies
import Derived.KernelRfl
namespace Go.Proofs.Ybulkyzw
/- THE CELL 'sum', in the pinned program and in every row, IS THE sha256 OF THE DUMP (.gsa) THAT YbulkyzwProg.lean LOADS. Nothing in Lean hashes anything: it is a label: what it is worth is what the hold of that sum in a sandbox is worth. -/
noncomputable def Yba.pinned : Pinned := { name := "ybulkyzw", sum := "8132a9a937f0b780ae48b7c4c1c9e931ad71716ab6e4ff50a0927a0a71ba7e8f", checked := Yba.checked }
namespace Rows
def none {H : Type} : Left H := { results := [], args := [] }

/-- 'even-mailbox.LawS1257BFifo': WHATEVER THE INPUT: true; the input reads as it did. -/
def lawS1257BFifoSpec : ChangeSpec := { name := "lawS1257BFifo", fn := fun _ => fun
  | [d1, d2] => { results := [.lit (.bool true)], args := [d1, d2] }
  | _ => none }
def lawS1257BFifoRow : OpenClaim := { program := "ybulkyzw", sum := "8132a9a937f0b780ae48b7c4c1c9e931ad71716ab6e4ff50a0927a0a71ba7e8f", func := "example.com/even-mailbox/even-mailbox.LawS1257BFifo", spec := "lawS1257BFifo", apart := false }
def LawS1257BFifoSaid : Prop := lawS1257BFifoRow.holds Yba.pinned (OpenSpec.ofChange lawS1257BFifoSpec)

/-- ITS FALSE NEIGHBOUR: 'it returns false'. Refute it at one input. -/
def lawS1257BFifoWrong : ChangeSpec := { name := "lawS1257BFifo", fn := fun _ => fun
  | [d1, d2] => { results := [.lit (.bool false)], args := [d1, d2] }
  | _ => none }
def LawS1257BFifoWrongFalsely : Prop := lawS1257BFifoRow.holds Yba.pinned (OpenSpec.ofChange lawS1257BFifoWrong)

end Rows
end Go.Proofs.Ybulkyzw
