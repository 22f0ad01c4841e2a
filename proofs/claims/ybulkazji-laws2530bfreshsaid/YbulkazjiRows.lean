/-
  No cell of these rows narrows 'for every input' (looked for: loops, veiled, ifaces, maps, wideKeys, modest, calm, conditions, laid).
  DERIVED. THE GIVEN ROWS OF THIS SEAT. 2 by the template 'for every input the law returns true; each argument reads behind the call as it read before'; 0 by the template 'total and deterministic' (their statements: YbulkazjiTotals.lean).
  GIVEN WITH THE SEED: the statements are not yours to turn. If you find one false, say at which input.
  Laid BY PROGRAM, IN A SANDBOX (cutbox-rows.mjs): the forced cells as the released guide's own fill.sh prints them over the translation d0cb87d92b7f0c4b… (all of the seat's roots in one cut). By AI agents, Wed Nov 11 2026. No macro, syntax, notation, axiom, sorry.
-/
import Derived.Test.YbulkazjiChecked
import GoSem.Claim
import GoSem.ClaimJoined
import GoSem.ClaimMapViews
import Derived.JoinedTies
import Derived.KernelRfl
namespace Go.Proofs.Ybulkazji
/- THE CELL 'sum', in the pinned program and in every row, IS THE sha256 OF THE DUMP (.gsa) THAT YbulkazjiProg.lean LOADS. Nothing in Lean hashes anything: it is a label: what it is worth is what the hold of that sum in a sandbox is worth. -/
noncomputable def Yba.pinned : Pinned := { name := "ybulkazji", sum := "d0cb87d92b7f0c4b0fae1d54b12368c2b3624d18a0dc423026189dc4aea3e23a", checked := Yba.checked }
namespace Rows
def none {H : Type} : Left H := { results := [], args := [] }

/-- 'deadline-to-done.LawS2530BFields': WHATEVER THE INPUT: true; the input reads as it did. -/
def lawS2530BFieldsSpec : ChangeSpec := { name := "lawS2530BFields", fn := fun _ => fun
  | [d1, d2] => { results := [.lit (.bool true)], args := [d1, d2] }
  | _ => none }
def lawS2530BFieldsRow : OpenClaim := { program := "ybulkazji", sum := "d0cb87d92b7f0c4b0fae1d54b12368c2b3624d18a0dc423026189dc4aea3e23a", func := "example.com/deadline-to-done/deadline-to-done.LawS2530BFields", spec := "lawS2530BFields", inPlace := ["runtime.GOMAXPROCS", "sync/atomic.LoadPointer", "sync/atomic.LoadUint32"], unfollowed := true, recurses := true, apart := false }
def LawS2530BFieldsSaid : Prop := lawS2530BFieldsRow.holds Yba.pinned (OpenSpec.ofChange lawS2530BFieldsSpec)

/-- ITS FALSE NEIGHBOUR: 'it returns false'. Refute it at one input. -/
def lawS2530BFieldsWrong : ChangeSpec := { name := "lawS2530BFields", fn := fun _ => fun
  | [d1, d2] => { results := [.lit (.bool false)], args := [d1, d2] }
  | _ => none }
def LawS2530BFieldsWrongFalsely : Prop := lawS2530BFieldsRow.holds Yba.pinned (OpenSpec.ofChange lawS2530BFieldsWrong)

/-- 'deadline-to-done.LawS2530BFresh': WHATEVER THE INPUT: true; the input reads as it did. -/
def lawS2530BFreshSpec : ChangeSpec := { name := "lawS2530BFresh", fn := fun _ => fun
  | [d] => { results := [.lit (.bool true)], args := [d] }
  | _ => none }
def lawS2530BFreshRow : OpenClaim := { program := "ybulkazji", sum := "d0cb87d92b7f0c4b0fae1d54b12368c2b3624d18a0dc423026189dc4aea3e23a", func := "example.com/deadline-to-done/deadline-to-done.LawS2530BFresh", spec := "lawS2530BFresh", inPlace := ["runtime.GOMAXPROCS"], unfollowed := true, recurses := true, apart := false }
def LawS2530BFreshSaid : Prop := lawS2530BFreshRow.holds Yba.pinned (OpenSpec.ofChange lawS2530BFreshSpec)

/-- ITS FALSE NEIGHBOUR: 'it returns false'. Refute it at one input. -/
def lawS2530BFreshWrong : ChangeSpec := { name := "lawS2530BFresh", fn := fun _ => fun
  | [d] => { results := [.lit (.bool false)], args := [d] }
  | _ => none }
def LawS2530BFreshWrongFalsely : Prop := lawS2530BFreshRow.holds Yba.pinned (OpenSpec.ofChange lawS2530BFreshWrong)

end Rows
end Go.Proofs.Ybulkazji
