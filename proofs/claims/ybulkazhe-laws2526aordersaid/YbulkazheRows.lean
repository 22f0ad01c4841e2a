/-
  No cell of these rows narrows 'for every input' (looked for: loops, veiled, ifaces, maps, wideKeys, modest, calm, conditions, laid).
  DERIVED. THE GIVEN ROWS OF THIS SEAT. 2 by the template 'for every input the law returns true; each argument reads behind the call as it read before'; 0 by the template 'total and deterministic' (their statements: YbulkazheTotals.lean).
  GIVEN WITH THE SEED: the statements are not yours to turn. If you find one false, say at which input.
  Laid BY PROGRAM, IN A SANDBOX (cutbox-rows.mjs): the forced cells as the released guide's own fill.sh prints them over the translation 9409eab174add930… (all of the seat's roots in one cut). By AI agents, Wed Nov 11 2026. No macro, syntax, notation, axiom, sorry.
-/
import Derived.Test.YbulkazheChecked
import GoSem.Claim
import GoSem.ClaimJoined
import GoSem.ClaimMapViews
import Derived.JoinedTies
import Derived.KernelRfl
namespace Go.Proofs.Ybulkazhe
/- THE CELL 'sum', in the pinned program and in every row, IS THE sha256 OF THE DUMP (.gsa) THAT YbulkazheProg.lean LOADS. Nothing in Lean hashes anything: it is a label: what it is worth is what the hold of that sum in a sandbox is worth. -/
noncomputable def Yba.pinned : Pinned := { name := "ybulkazhe", sum := "9409eab174add930d1e5ca2b5be6d510896a17247603976a6e921c7e4ac4de65", checked := Yba.checked }
namespace Rows
def none {H : Type} : Left H := { results := [], args := [] }

/-- 'kith.LawS2526AExact': WHATEVER THE INPUT: true; the input reads as it did. -/
def lawS2526AExactSpec : ChangeSpec := { name := "lawS2526AExact", fn := fun _ => fun
  | [d1, d2, d3] => { results := [.lit (.bool true)], args := [d1, d2, d3] }
  | _ => none }
def lawS2526AExactRow : OpenClaim := { program := "ybulkazhe", sum := "9409eab174add930d1e5ca2b5be6d510896a17247603976a6e921c7e4ac4de65", func := "example.com/kith/kith.LawS2526AExact", spec := "lawS2526AExact", unfollowed := true, recurses := true, apart := false }
def LawS2526AExactSaid : Prop := lawS2526AExactRow.holds Yba.pinned (OpenSpec.ofChange lawS2526AExactSpec)

/-- ITS FALSE NEIGHBOUR: 'it returns false'. Refute it at one input. -/
def lawS2526AExactWrong : ChangeSpec := { name := "lawS2526AExact", fn := fun _ => fun
  | [d1, d2, d3] => { results := [.lit (.bool false)], args := [d1, d2, d3] }
  | _ => none }
def LawS2526AExactWrongFalsely : Prop := lawS2526AExactRow.holds Yba.pinned (OpenSpec.ofChange lawS2526AExactWrong)

/-- 'kith.LawS2526AOrder': WHATEVER THE INPUT: true; the input reads as it did. -/
def lawS2526AOrderSpec : ChangeSpec := { name := "lawS2526AOrder", fn := fun _ => fun
  | [d] => { results := [.lit (.bool true)], args := [d] }
  | _ => none }
def lawS2526AOrderRow : OpenClaim := { program := "ybulkazhe", sum := "9409eab174add930d1e5ca2b5be6d510896a17247603976a6e921c7e4ac4de65", func := "example.com/kith/kith.LawS2526AOrder", spec := "lawS2526AOrder", unfollowed := true, recurses := true, apart := false }
def LawS2526AOrderSaid : Prop := lawS2526AOrderRow.holds Yba.pinned (OpenSpec.ofChange lawS2526AOrderSpec)

/-- ITS FALSE NEIGHBOUR: 'it returns false'. Refute it at one input. -/
def lawS2526AOrderWrong : ChangeSpec := { name := "lawS2526AOrder", fn := fun _ => fun
  | [d] => { results := [.lit (.bool false)], args := [d] }
  | _ => none }
def LawS2526AOrderWrongFalsely : Prop := lawS2526AOrderRow.holds Yba.pinned (OpenSpec.ofChange lawS2526AOrderWrong)

end Rows
end Go.Proofs.Ybulkazhe
