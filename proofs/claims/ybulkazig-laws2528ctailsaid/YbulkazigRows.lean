/-
  No cell of these rows narrows 'for every input' (looked for: loops, veiled, ifaces, maps, wideKeys, modest, calm, conditions, laid).
  DERIVED. THE GIVEN ROWS OF THIS SEAT. 2 by the template 'for every input the law returns true; each argument reads behind the call as it read before'; 0 by the template 'total and deterministic' (their statements: YbulkazigTotals.lean).
  GIVEN WITH THE SEED: the statements are not yours to turn. If you find one false, say at which input.
  Laid BY PROGRAM, IN A SANDBOX (cutbox-rows.mjs): the forced cells as the released guide's own fill.sh prints them over the translation a7bd8b03731ae9aa… (all of the seat's roots in one cut). By AI agents, Wed Nov 11 2026. No macro, syntax, notation, axiom, sorry.
-/
import Derived.Test.YbulkazigChecked
import GoSem.Claim
import GoSem.ClaimJoined
import GoSem.ClaimMapViews
import Derived.JoinedTies
import Derived.KernelRfl
namespace Go.Proofs.Ybulkazig
/- THE CELL 'sum', in the pinned program and in every row, IS THE sha256 OF THE DUMP (.gsa) THAT YbulkazigProg.lean LOADS. Nothing in Lean hashes anything: it is a label: what it is worth is what the hold of that sum in a sandbox is worth. -/
noncomputable def Yba.pinned : Pinned := { name := "ybulkazig", sum := "a7bd8b03731ae9aa9bddf3a2443f2de2ec0adc4cc29587eb057fffe6c8d9b914", checked := Yba.checked }
namespace Rows
def none {H : Type} : Left H := { results := [], args := [] }

/-- 'profile.LawS2528CKids': WHATEVER THE INPUT: true; the input reads as it did. -/
def lawS2528CKidsSpec : ChangeSpec := { name := "lawS2528CKids", fn := fun _ => fun
  | [d] => { results := [.lit (.bool true)], args := [d] }
  | _ => none }
def lawS2528CKidsRow : OpenClaim := { program := "ybulkazig", sum := "a7bd8b03731ae9aa9bddf3a2443f2de2ec0adc4cc29587eb057fffe6c8d9b914", func := "example.com/flamewell/flamewell/internal/profile.LawS2528CKids", spec := "lawS2528CKids", apart := false }
def LawS2528CKidsSaid : Prop := lawS2528CKidsRow.holds Yba.pinned (OpenSpec.ofChange lawS2528CKidsSpec)

/-- ITS FALSE NEIGHBOUR: 'it returns false'. Refute it at one input. -/
def lawS2528CKidsWrong : ChangeSpec := { name := "lawS2528CKids", fn := fun _ => fun
  | [d] => { results := [.lit (.bool false)], args := [d] }
  | _ => none }
def LawS2528CKidsWrongFalsely : Prop := lawS2528CKidsRow.holds Yba.pinned (OpenSpec.ofChange lawS2528CKidsWrong)

/-- 'profile.LawS2528CTail': WHATEVER THE INPUT: true; the input reads as it did. -/
def lawS2528CTailSpec : ChangeSpec := { name := "lawS2528CTail", fn := fun _ => fun
  | [d1, d2] => { results := [.lit (.bool true)], args := [d1, d2] }
  | _ => none }
def lawS2528CTailRow : OpenClaim := { program := "ybulkazig", sum := "a7bd8b03731ae9aa9bddf3a2443f2de2ec0adc4cc29587eb057fffe6c8d9b914", func := "example.com/flamewell/flamewell/internal/profile.LawS2528CTail", spec := "lawS2528CTail", unfollowed := true, recurses := true, apart := false }
def LawS2528CTailSaid : Prop := lawS2528CTailRow.holds Yba.pinned (OpenSpec.ofChange lawS2528CTailSpec)

/-- ITS FALSE NEIGHBOUR: 'it returns false'. Refute it at one input. -/
def lawS2528CTailWrong : ChangeSpec := { name := "lawS2528CTail", fn := fun _ => fun
  | [d1, d2] => { results := [.lit (.bool false)], args := [d1, d2] }
  | _ => none }
def LawS2528CTailWrongFalsely : Prop := lawS2528CTailRow.holds Yba.pinned (OpenSpec.ofChange lawS2528CTailWrong)

end Rows
end Go.Proofs.Ybulkazig
