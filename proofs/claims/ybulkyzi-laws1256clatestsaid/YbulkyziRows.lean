/-
  No cell of these rows narrows 'for every input' (looked for: loops, veiled, ifaces, maps, wideKeys, modest, calm, conditions, laid).
  DERIVED. THE GIVEN ROWS OF THIS SEAT. 4 by the template 'for every input the law returns true; each argument reads behind the call as it read before'; 0 by the template 'total and deterministic' (their statements: YbulkyziTotals.lean).
  GIVEN WITH THE SEED: the statements are not yours to turn. If you find one false, say at which input.
  Laid BY PROGRAM, IN A SANDBOX (cutbox-rows.mjs): the forced cells as the released guide's own fill.sh prints them over the translation 9e5f9b122b996bf6… (all of the seat's roots in one cut). By AI agents, Wed Nov 11 2026. No macro, syntax, notation, axiom, sorry.
-/
import Derived.Test.YbulkyziChecked
import GoSem.Claim
import GoSem.ClaimJoined
import GoSem.ClaimMapViews
import Derived.JoinedTies
import Derived.KernelRfl
namespace Go.Proofs.Ybulkyzi
/- THE CELL 'sum', in the pinned program and in every row, IS THE sha256 OF THE DUMP (.gsa) THAT YbulkyziProg.lean LOADS. Nothing in Lean hashes anything: it is a label: what it is worth is what the hold of that sum in a sandbox is worth. -/
noncomputable def Yba.pinned : Pinned := { name := "ybulkyzi", sum := "9e5f9b122b996bf6384da4ad9d401a006be4dfc838820bf97bc6aed5fc665c95", checked := Yba.checked }
namespace Rows
def none {H : Type} : Left H := { results := [], args := [] }

/-- 'addwins.LawS1256AEncoding': WHATEVER THE INPUT: true; the input reads as it did. -/
def lawS1256AEncodingSpec : ChangeSpec := { name := "lawS1256AEncoding", fn := fun _ => fun
  | [d1, d2, d3, d4, d5] => { results := [.lit (.bool true)], args := [d1, d2, d3, d4, d5] }
  | _ => none }
def lawS1256AEncodingRow : OpenClaim := { program := "ybulkyzi", sum := "9e5f9b122b996bf6384da4ad9d401a006be4dfc838820bf97bc6aed5fc665c95", func := "example.com/rivermeet/rivermeet/addwins.LawS1256AEncoding", spec := "lawS1256AEncoding", unfollowed := true, recurses := true, apart := false }
def LawS1256AEncodingSaid : Prop := lawS1256AEncodingRow.holds Yba.pinned (OpenSpec.ofChange lawS1256AEncodingSpec)

/-- ITS FALSE NEIGHBOUR: 'it returns false'. Refute it at one input. -/
def lawS1256AEncodingWrong : ChangeSpec := { name := "lawS1256AEncoding", fn := fun _ => fun
  | [d1, d2, d3, d4, d5] => { results := [.lit (.bool false)], args := [d1, d2, d3, d4, d5] }
  | _ => none }
def LawS1256AEncodingWrongFalsely : Prop := lawS1256AEncodingRow.holds Yba.pinned (OpenSpec.ofChange lawS1256AEncodingWrong)

/-- 'addwins.LawS1256BEncoding': WHATEVER THE INPUT: true; the input reads as it did. -/
def lawS1256BEncodingSpec : ChangeSpec := { name := "lawS1256BEncoding", fn := fun _ => fun
  | [d1, d2, d3, d4, d5] => { results := [.lit (.bool true)], args := [d1, d2, d3, d4, d5] }
  | _ => none }
def lawS1256BEncodingRow : OpenClaim := { program := "ybulkyzi", sum := "9e5f9b122b996bf6384da4ad9d401a006be4dfc838820bf97bc6aed5fc665c95", func := "example.com/rivermeet/rivermeet/addwins.LawS1256BEncoding", spec := "lawS1256BEncoding", apart := false }
def LawS1256BEncodingSaid : Prop := lawS1256BEncodingRow.holds Yba.pinned (OpenSpec.ofChange lawS1256BEncodingSpec)

/-- ITS FALSE NEIGHBOUR: 'it returns false'. Refute it at one input. -/
def lawS1256BEncodingWrong : ChangeSpec := { name := "lawS1256BEncoding", fn := fun _ => fun
  | [d1, d2, d3, d4, d5] => { results := [.lit (.bool false)], args := [d1, d2, d3, d4, d5] }
  | _ => none }
def LawS1256BEncodingWrongFalsely : Prop := lawS1256BEncodingRow.holds Yba.pinned (OpenSpec.ofChange lawS1256BEncodingWrong)

/-- 'addwins.LawS1256CLatest': WHATEVER THE INPUT: true; the input reads as it did. -/
def lawS1256CLatestSpec : ChangeSpec := { name := "lawS1256CLatest", fn := fun _ => fun
  | [d1, d2, d3] => { results := [.lit (.bool true)], args := [d1, d2, d3] }
  | _ => none }
def lawS1256CLatestRow : OpenClaim := { program := "ybulkyzi", sum := "9e5f9b122b996bf6384da4ad9d401a006be4dfc838820bf97bc6aed5fc665c95", func := "example.com/rivermeet/rivermeet/addwins.LawS1256CLatest", spec := "lawS1256CLatest", apart := false }
def LawS1256CLatestSaid : Prop := lawS1256CLatestRow.holds Yba.pinned (OpenSpec.ofChange lawS1256CLatestSpec)

/-- ITS FALSE NEIGHBOUR: 'it returns false'. Refute it at one input. -/
def lawS1256CLatestWrong : ChangeSpec := { name := "lawS1256CLatest", fn := fun _ => fun
  | [d1, d2, d3] => { results := [.lit (.bool false)], args := [d1, d2, d3] }
  | _ => none }
def LawS1256CLatestWrongFalsely : Prop := lawS1256CLatestRow.holds Yba.pinned (OpenSpec.ofChange lawS1256CLatestWrong)

/-- 'addwins.LawS1256CGet': WHATEVER THE INPUT: true; the input reads as it did. -/
def lawS1256CGetSpec : ChangeSpec := { name := "lawS1256CGet", fn := fun _ => fun
  | [d1, d2, d3] => { results := [.lit (.bool true)], args := [d1, d2, d3] }
  | _ => none }
def lawS1256CGetRow : OpenClaim := { program := "ybulkyzi", sum := "9e5f9b122b996bf6384da4ad9d401a006be4dfc838820bf97bc6aed5fc665c95", func := "example.com/rivermeet/rivermeet/addwins.LawS1256CGet", spec := "lawS1256CGet", apart := false }
def LawS1256CGetSaid : Prop := lawS1256CGetRow.holds Yba.pinned (OpenSpec.ofChange lawS1256CGetSpec)

/-- ITS FALSE NEIGHBOUR: 'it returns false'. Refute it at one input. -/
def lawS1256CGetWrong : ChangeSpec := { name := "lawS1256CGet", fn := fun _ => fun
  | [d1, d2, d3] => { results := [.lit (.bool false)], args := [d1, d2, d3] }
  | _ => none }
def LawS1256CGetWrongFalsely : Prop := lawS1256CGetRow.holds Yba.pinned (OpenSpec.ofChange lawS1256CGetWrong)

end Rows
end Go.Proofs.Ybulkyzi
