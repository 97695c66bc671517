/-
  No cell of these rows narrows 'for every input' (looked for: loops, veiled, ifaces, maps, wideKeys, modest, calm, conditions, laid).
  DERIVED. THE GIVEN ROWS OF THIS SEAT. 2 by the template 'for every input the law returns true; each argument reads behind the call as it read before'; 0 by the template 'total and deterministic' (their statements: YbulkywcTotals.lean).
  GIVEN WITH THE SEED: the statements are not yours to turn. If you find one false, say at which input.
  Laid BY PROGRAM, IN A SANDBOX (cutbox-rows.mjs): the forced cells as the released guide's own fill.sh prints them over the translation 18c98220b5d82f0e… (all of the seat's roots in one cut). By AI agents, Wed Nov 11 2026. No macro, syntax, notation, axiom, sorry.
-/
import Derived.Test.YbulkywcChecked
import GoSem.Claim
import GoSem.ClaimJoined
import GoSem.ClaimMapViews
import Derived.JoinedTies
import Derived.KernelRfl
namespace Go.Proofs.Ybulkywc
/- THE CELL 'sum', in the pinned program and in every row, IS THE sha256 OF THE DUMP (.gsa) THAT YbulkywcProg.lean LOADS. Nothing in Lean hashes anything: it is a label: what it is worth is what the hold of that sum in a sandbox is worth. -/
noncomputable def Yba.pinned : Pinned := { name := "ybulkywc", sum := "18c98220b5d82f0e4848da0a5de769f23f7de828c49e915cc0b22b7ed084c73d", checked := Yba.checked }
namespace Rows
def none {H : Type} : Left H := { results := [], args := [] }

/-- 'countersign.LawS1250BBytes': WHATEVER THE INPUT: true; the input reads as it did. -/
def lawS1250BBytesSpec : ChangeSpec := { name := "lawS1250BBytes", fn := fun _ => fun
  | [d] => { results := [.lit (.bool true)], args := [d] }
  | _ => none }
def lawS1250BBytesRow : OpenClaim := { program := "ybulkywc", sum := "18c98220b5d82f0e4848da0a5de769f23f7de828c49e915cc0b22b7ed084c73d", func := "example.com/countersign/countersign.LawS1250BBytes", spec := "lawS1250BBytes", unfollowed := true, recurses := true, apart := false }
def LawS1250BBytesSaid : Prop := lawS1250BBytesRow.holds Yba.pinned (OpenSpec.ofChange lawS1250BBytesSpec)

/-- ITS FALSE NEIGHBOUR: 'it returns false'. Refute it at one input. -/
def lawS1250BBytesWrong : ChangeSpec := { name := "lawS1250BBytes", fn := fun _ => fun
  | [d] => { results := [.lit (.bool false)], args := [d] }
  | _ => none }
def LawS1250BBytesWrongFalsely : Prop := lawS1250BBytesRow.holds Yba.pinned (OpenSpec.ofChange lawS1250BBytesWrong)

/-- 'countersign.LawS1250BPicked': WHATEVER THE INPUT: true; the input reads as it did. -/
def lawS1250BPickedSpec : ChangeSpec := { name := "lawS1250BPicked", fn := fun _ => fun
  | [d] => { results := [.lit (.bool true)], args := [d] }
  | _ => none }
def lawS1250BPickedRow : OpenClaim := { program := "ybulkywc", sum := "18c98220b5d82f0e4848da0a5de769f23f7de828c49e915cc0b22b7ed084c73d", func := "example.com/countersign/countersign.LawS1250BPicked", spec := "lawS1250BPicked", unfollowed := true, recurses := true, apart := false }
def LawS1250BPickedSaid : Prop := lawS1250BPickedRow.holds Yba.pinned (OpenSpec.ofChange lawS1250BPickedSpec)

/-- ITS FALSE NEIGHBOUR: 'it returns false'. Refute it at one input. -/
def lawS1250BPickedWrong : ChangeSpec := { name := "lawS1250BPicked", fn := fun _ => fun
  | [d] => { results := [.lit (.bool false)], args := [d] }
  | _ => none }
def LawS1250BPickedWrongFalsely : Prop := lawS1250BPickedRow.holds Yba.pinned (OpenSpec.ofChange lawS1250BPickedWrong)

end Rows
end Go.Proofs.Ybulkywc
