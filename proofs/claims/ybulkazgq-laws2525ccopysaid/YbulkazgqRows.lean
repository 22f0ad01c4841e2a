/-
  No cell of these rows narrows 'for every input' (looked for: loops, veiled, ifaces, maps, wideKeys, modest, calm, conditions, laid).
  DERIVED. THE GIVEN ROWS OF THIS SEAT. 2 by the template 'for every input the law returns true; each argument reads behind the call as it read before'; 0 by the template 'total and deterministic' (their statements: YbulkazgqTotals.lean).
  GIVEN WITH THE SEED: the statements are not yours to turn. If you find one false, say at which input.
  Laid BY PROGRAM, IN A SANDBOX (cutbox-rows.mjs): the forced cells as the released guide's own fill.sh prints them over the translation 8ad0c26b3adaf4f5… (all of the seat's roots in one cut). By AI agents, Wed Nov 11 2026. No macro, syntax, notation, axiom, sorry.
-/
import Derived.Test.YbulkazgqChecked
import GoSem.Claim
import GoSem.ClaimJoined
import GoSem.ClaimMapViews
import Derived.JoinedTies
import Derived.KernelRfl
namespace Go.Proofs.Ybulkazgq
/- THE CELL 'sum', in the pinned program and in every row, IS THE sha256 OF THE DUMP (.gsa) THAT YbulkazgqProg.lean LOADS. Nothing in Lean hashes anything: it is a label: what it is worth is what the hold of that sum in a sandbox is worth. -/
noncomputable def Yba.pinned : Pinned := { name := "ybulkazgq", sum := "8ad0c26b3adaf4f5cb8152c46bd156bdb8b05f5f44342f0fd7a4c945fd583591", checked := Yba.checked }
namespace Rows
def none {H : Type} : Left H := { results := [], args := [] }

/-- 'literalis.LawS2525CAnyHead': WHATEVER THE INPUT: true; the input reads as it did. -/
def lawS2525CAnyHeadSpec : ChangeSpec := { name := "lawS2525CAnyHead", fn := fun _ => fun
  | [d1, d2, d3] => { results := [.lit (.bool true)], args := [d1, d2, d3] }
  | _ => none }
def lawS2525CAnyHeadRow : OpenClaim := { program := "ybulkazgq", sum := "8ad0c26b3adaf4f5cb8152c46bd156bdb8b05f5f44342f0fd7a4c945fd583591", func := "example.com/literalis/literalis.LawS2525CAnyHead", spec := "lawS2525CAnyHead", apart := false }
def LawS2525CAnyHeadSaid : Prop := lawS2525CAnyHeadRow.holds Yba.pinned (OpenSpec.ofChange lawS2525CAnyHeadSpec)

/-- ITS FALSE NEIGHBOUR: 'it returns false'. Refute it at one input. -/
def lawS2525CAnyHeadWrong : ChangeSpec := { name := "lawS2525CAnyHead", fn := fun _ => fun
  | [d1, d2, d3] => { results := [.lit (.bool false)], args := [d1, d2, d3] }
  | _ => none }
def LawS2525CAnyHeadWrongFalsely : Prop := lawS2525CAnyHeadRow.holds Yba.pinned (OpenSpec.ofChange lawS2525CAnyHeadWrong)

/-- 'literalis.LawS2525CCopy': WHATEVER THE INPUT: true; the input reads as it did. -/
def lawS2525CCopySpec : ChangeSpec := { name := "lawS2525CCopy", fn := fun _ => fun
  | [d] => { results := [.lit (.bool true)], args := [d] }
  | _ => none }
def lawS2525CCopyRow : OpenClaim := { program := "ybulkazgq", sum := "8ad0c26b3adaf4f5cb8152c46bd156bdb8b05f5f44342f0fd7a4c945fd583591", func := "example.com/literalis/literalis.LawS2525CCopy", spec := "lawS2525CCopy", apart := false }
def LawS2525CCopySaid : Prop := lawS2525CCopyRow.holds Yba.pinned (OpenSpec.ofChange lawS2525CCopySpec)

/-- ITS FALSE NEIGHBOUR: 'it returns false'. Refute it at one input. -/
def lawS2525CCopyWrong : ChangeSpec := { name := "lawS2525CCopy", fn := fun _ => fun
  | [d] => { results := [.lit (.bool false)], args := [d] }
  | _ => none }
def LawS2525CCopyWrongFalsely : Prop := lawS2525CCopyRow.holds Yba.pinned (OpenSpec.ofChange lawS2525CCopyWrong)

end Rows
end Go.Proofs.Ybulkazgq
