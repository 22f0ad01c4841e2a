/-
  Seat b2528a: the tree's list of nodes in memory; the contracts of len, Len, at.
-/
import Derived.Test.YbulkazigRows
import Derived.WalkKit
import Derived.ProofKit
import Derived.OpenShut
import Derived.Deep.QuietTactic
import Derived.BigQuiet
import Derived.WalkSpells
import Derived.WalkLawsBesides
import Derived.Outline
import Derived.Deep.Light
import Derived.Deep.RegionHeld3
import Derived.Deep.RegionLaw
import Derived.Laws.CopyOwn
namespace Go.Proofs.Ybulkazig
open Go.ChangeShapes Go.WideShapes Go.ChangeAt Go.RowKit
set_option linter.unusedVariables false

theorem Yba.info59 : (Yba.prog.info? 59).map (fun i => (i.zero, i.size, i.bytes)) = some (some (.agg #[.string ⟨#[]⟩, .int .i32 0, .int .u32 0, .int .i64 0, .int .i64 0]), 5, 40) := by kernel_rfl
theorem Yba.info64 : (Yba.prog.info? 64).map (fun i => (i.zero, i.size, i.bytes)) = some (some (.slice none 0 0), 1, 24) := by kernel_rfl

/-- The list of nodes behind the pointer to block tb: one block of nodes (ob: the outer row; gb: the block of nodes), of n nodes, with room for nc; xs: its cells. -/
structure Nodes (w : World) (base tb ob oc gb n nc : Nat) (xs : List Value) : Prop where
  c0 : w.cell? ⟨tb, 0, none⟩ = some (.slice (some ⟨ob, 0, none⟩) 1 oc)
  c1 : w.cell? ⟨ob, 0, none⟩ = some (.slice (some ⟨gb, 0, none⟩) n nc)
  f1 : w.frozen? ⟨ob, 0, none⟩ = false
  own : w.ownsRow base 59 5 (.slice (some ⟨gb, 0, none⟩) n nc) n xs
  bt : base ≤ tb
  bo : base ≤ ob
  lt : tb < w.heap.size
  lo : ob < w.heap.size
  d1 : tb ≠ ob
  d2 : tb ≠ gb
  d3 : ob ≠ gb
  n1 : 1 ≤ n
  n2 : n ≤ nc
  n3 : nc ≤ 4096

theorem Nodes.bg {w : World} {base tb ob oc gb n nc : Nat} {xs : List Value} (h : Nodes w base tb ob oc gb n nc xs) : base ≤ gb ∧ gb < w.heap.size := h.own.lt gb rfl

theorem len_any {w : World} {base tb ob oc gb n nc : Nat} {xs : List Value} (h : Nodes w base tb ob oc gb n nc xs) :
    Calls Yba.prog 12 #[.pointer (some ⟨tb, 0, none⟩)] w fun e w' => e = .returned (.int .i64 n) ∧ w = w' := by
  have c0 := h.c0
  have c1 := h.c1
  have n2 := h.n2
  have n3 := h.n3
  clear h
  go_enter Yba.func12, Yba.ntmps12
  go_wp2
  go_ret
  exact ⟨rfl, rfl⟩

theorem Len_any {w : World} {base tb ob oc gb n nc : Nat} {xs : List Value} (h : Nodes w base tb ob oc gb n nc xs) :
    Calls Yba.prog 10 #[.pointer (some ⟨tb, 0, none⟩)] w fun e w' => e = .returned (.int .i64 n) ∧ w = w' := by
  go_enter Yba.func10, Yba.ntmps10
  go_wp2_with (go_at_call 12; refine (len_any h).mono ?_; rintro e w' ⟨rfl, rfl⟩)
  go_ret
  exact ⟨rfl, rfl⟩

theorem and_4095 (i : Nat) (hi : i < 4096) : bits .and .i64 (i : Int) 4095 = (i : Int) := by
  have hm : (BitVec.ofInt 64 4095).toNat = 2 ^ 12 - 1 := by decide
  have key : (BitVec.ofInt 64 (i : Int) &&& BitVec.ofInt 64 4095).toNat = ((i : Int) % ((2 ^ 64 : Nat) : Int)).toNat % 2 ^ 12 := by
    rw [BitVec.toNat_and, BitVec.toNat_ofInt, hm, Nat.and_two_pow_sub_one_eq_mod]
  show IntKind.i64.wrap ((BitVec.ofInt 64 (i : Int) &&& BitVec.ofInt 64 4095).toNat : Nat) = (i : Int)
  rw [key, IntKind.wrap_i64]
  omega

theorem at_any {w : World} {base tb ob oc gb n nc : Nat} {xs : List Value} (h : Nodes w base tb ob oc gb n nc xs) (i : Nat) (hi : i < n) :
    Calls Yba.prog 11 #[.pointer (some ⟨tb, 0, none⟩), .int .i64 i] w fun e w' => e = .returned (.pointer (some ⟨gb, i * 5, none⟩)) ∧ w = w' := by
  have c0 := h.c0
  have c1 := h.c1
  have n2 := h.n2
  have n3 := h.n3
  clear h
  have hi' : (i : Int) < (n : Int) := by omega
  have hd : (i : Int) / 4096 = 0 := by omega
  have ha := and_4095 i (by omega)
  go_enter Yba.func11, Yba.ntmps11
  go_wp2
  go_ret
  exact ⟨rfl, rfl⟩
end Go.Proofs.Ybulkazig
