/-
  Seat b2530a: the contract of newLimiter; the walk of LawS2530BFresh.
-/
import Derived.Test.YbulkazjiProcs
import Derived.ProofKit
import Derived.OpenShut
import Derived.Deep.QuietTactic
import Derived.BigQuiet
import Derived.WalkSpells
import Derived.WalkLawsBesides
import Derived.Outline
import Derived.LaidEqlPtr
namespace Go.Proofs.Ybulkazji
open Go.ChangeShapes Go.WideShapes Go.ChangeAt Go.RowKit
set_option linter.unusedVariables false

theorem start_fin : (begin Yba.prog (fun _ _ => 0) default).world.heap[Yba.prog.globals.size + 4]? = some (.finalizers #[] none) := by kernel_rfl
theorem start_size : decide (Yba.prog.globals.size + 4 < (begin Yba.prog (fun _ _ => 0) default).world.heap.size) = true := by kernel_rfl

/-- The model's table of cleanups stands in every world that the form speaks of. -/
theorem fin_of {W : World} (h : W.ShapedOpen Yba.prog) : ∃ cs r, W.heap[cleanupTable Yba.prog]? = some (.finalizers cs r) := by
  obtain ⟨o, o0, h1, h2, h3⟩ := h.2 (Yba.prog.globals.size + 4) (by omega) (of_decide_eq_true start_size)
  rw [start_fin] at h2
  obtain rfl := Option.some.inj h2
  have e : Yba.prog.globals.size + 4 - Yba.prog.globals.size = 4 := by omega
  rw [e, if_pos (by rfl)] at h3
  refine (?_ : ∃ cs r, W.heap[Yba.prog.globals.size + 4]? = some (.finalizers cs r))
  rw [h1]
  cases o with
  | finalizers cs r => exact ⟨cs, r, rfl⟩
  | _ => first | (simp [Obj.alike] at h3; done) | (cases h3; done)

/-- The cells of a new limiter: the group, the two spin counts, the limit. -/
abbrev limC (gb : Nat) (s1 s2 n : Int) : Array Value :=
  #[.pointer (some ⟨gb, 0, none⟩), .int .i64 s1, .int .i64 s2, .int .i32 0, .int .u32 0, .int .i64 n, .int .i64 0, .int .i64 0, .chan none, .pointer none, .pointer none, .pointer none, .pointer none, .int .u64 0, .int .u32 0, .pointer none, .int .u32 0]

/-- The spin counts by the number of processors in force. -/
def spin (p : Nat) (k : Int) : Int := if 1 < (p : Int) then k else 0

theorem limiter_any (gb : Nat) (n : Int) (w : World) (cs : Array (Nat × Deferred)) (r : Option Nat) (h : w.heap[cleanupTable Yba.prog]? = some (.finalizers cs r)) :
    Calls Yba.prog 5 #[.pointer (some ⟨gb, 0, none⟩), .int .i64 n] w fun e w' => e = .returned (.pointer (some ⟨w.heap.size, 0, none⟩)) ∧ w' = w.alloc (.cells (limC gb (spin w.os.procs 4096) (spin w.os.procs 32768) n) 59) := by
  have hlt : cleanupTable Yba.prog < w.heap.size := (Array.getElem?_eq_some_iff.1 h).1
  have hgm : ∀ o, (callFunc 8 #[.int .i64 0]).run Yba.prog (w.alloc o) = .ok (.value (.int .i64 (w.os.procs : Int))) (w.alloc o) := fun o => gomax (w.alloc o) cs r (by rw [Below.heap_alloc _ _ _ hlt]; exact h)
  clear h hlt
  by_cases hp : 1 < (w.os.procs : Int)
  · have e1 : spin w.os.procs 4096 = 4096 := if_pos hp
    have e2 : spin w.os.procs 32768 = 32768 := if_pos hp
    rw [e1, e2]
    go_enter Yba.func5, Yba.ntmps5
    go_wp2
    go_ret
    exact ⟨rfl, rfl⟩
  · have e1 : spin w.os.procs 4096 = 0 := if_neg hp
    have e2 : spin w.os.procs 32768 = 0 := if_neg hp
    rw [e1, e2]
    go_enter Yba.func5, Yba.ntmps5
    go_wp2
    go_ret
    exact ⟨rfl, rfl⟩

theorem info48 : ∃ j, Yba.prog.info? 48 = some j := by
  have h : (Yba.prog.info? 48).isSome = true := by kernel_rfl
  exact Option.isSome_iff_exists.1 h
theorem info59 : ∃ j, Yba.prog.info? 59 = some j ∧ j.size ≠ 0 := by
  have h : (Yba.prog.info? 59).map (·.size) = some 17 := by kernel_rfl
  obtain ⟨j, hj, hs⟩ := Option.map_eq_some_iff.1 h
  exact ⟨j, hj, by omega⟩

theorem eql_g (a : Addr) (w : World) : (binOp .eql 22 (.pointer (some a)) (.pointer (some a))).run Yba.prog w = .ok (.bool true) w := by
  obtain ⟨j, hj⟩ := info48
  exact run_eql_ptr_same w a Yba.underlying22 hj

theorem limiter_at (p : Nat) (gb : Nat) (n : Int) (w : World) (hp : w.os.procs = p) (cs : Array (Nat × Deferred)) (r : Option Nat) (h : w.heap[cleanupTable Yba.prog]? = some (.finalizers cs r)) :
    Calls Yba.prog 5 #[.pointer (some ⟨gb, 0, none⟩), .int .i64 n] w fun e w' => e = .returned (.pointer (some ⟨w.heap.size, 0, none⟩)) ∧ w' = w.alloc (.cells (limC gb (spin p 4096) (spin p 32768) n) 59) := by
  subst hp
  exact limiter_any gb n w cs r h

theorem eql_ab (w : World) (a b : Nat) (ca cb : Array Value) (ta tb : TypeId) (hne : a ≠ b) (ha : w.heap[a]? = some (.cells ca ta)) (hb : w.heap[b]? = some (.cells cb tb)) :
    (binOp .eql 38 (.pointer (some ⟨a, 0, none⟩)) (.pointer (some ⟨b, 0, none⟩))).run Yba.prog w = .ok (.bool false) w := by
  obtain ⟨j, hj, hs⟩ := info59
  exact run_eql_ptr_other w Yba.underlying38 hj hs (fun e => hne (by simpa using congrArg Addr.block e)) ha hb

/-- Two limiters made one behind the other: what the law reads. -/
structure Two (w W : World) (g a b : Nat) (s1 s2 n : Int) : Prop where
  a0 : W.cell? ⟨a, 0, none⟩ = some (.pointer (some ⟨g, 0, none⟩))
  a1 : W.cell? ⟨a, 1, none⟩ = some (.int .i64 s1)
  a2 : W.cell? ⟨a, 2, none⟩ = some (.int .i64 s2)
  a5 : W.cell? ⟨a, 5, none⟩ = some (.int .i64 n)
  b0 : W.cell? ⟨b, 0, none⟩ = some (.pointer (some ⟨g, 0, none⟩))
  b1 : W.cell? ⟨b, 1, none⟩ = some (.int .i64 s1)
  b2 : W.cell? ⟨b, 2, none⟩ = some (.int .i64 s2)
  b5 : W.cell? ⟨b, 5, none⟩ = some (.int .i64 n)
  ne : (binOp .eql 38 (.pointer (some ⟨a, 0, none⟩)) (.pointer (some ⟨b, 0, none⟩))).run Yba.prog W = .ok (.bool false) W
  bel : Below w.heap.size w W

theorem two_of (w : World) (G : Array Value) (t : TypeId) (s1 s2 n : Int) :
    Two w (((w.alloc (.cells G t)).alloc (.cells (limC w.heap.size s1 s2 n) 59)).alloc (.cells (limC w.heap.size s1 s2 n) 59)) w.heap.size (w.heap.size + 1) (w.heap.size + 2) s1 s2 n := by
  have ha : (((w.alloc (.cells G t)).alloc (.cells (limC w.heap.size s1 s2 n) 59)).alloc (.cells (limC w.heap.size s1 s2 n) 59)).heap[w.heap.size + 1]? = some (.cells (limC w.heap.size s1 s2 n) 59) := by
    rw [Below.heap_alloc _ _ _ (by simp)]
    have := heap_alloc_new (w.alloc (.cells G t)) (.cells (limC w.heap.size s1 s2 n) 59)
    simpa using this
  have hb : (((w.alloc (.cells G t)).alloc (.cells (limC w.heap.size s1 s2 n) 59)).alloc (.cells (limC w.heap.size s1 s2 n) 59)).heap[w.heap.size + 2]? = some (.cells (limC w.heap.size s1 s2 n) 59) := by
    have := heap_alloc_new ((w.alloc (.cells G t)).alloc (.cells (limC w.heap.size s1 s2 n) 59)) (.cells (limC w.heap.size s1 s2 n) 59)
    simpa using this
  have ca := fun j => cell_of_row _ _ j _ _ _ ha
  have cb := fun j => cell_of_row _ _ j _ _ _ hb
  exact ⟨(ca 0).trans rfl, (ca 1).trans rfl, (ca 2).trans rfl, (ca 5).trans rfl, (cb 0).trans rfl, (cb 1).trans rfl, (cb 2).trans rfl, (cb 5).trans rfl, eql_ab _ _ _ _ _ _ _ (by omega) ha hb, (((Below.refl _ _).alloc (Nat.le_refl _) _).alloc (by simp) _).alloc (by simp; omega) _⟩

set_option maxHeartbeats 2000000 in
theorem fresh_walk (n : Int) (w : World) (cs : Array (Nat × Deferred)) (r : Option Nat) (h : w.heap[cleanupTable Yba.prog]? = some (.finalizers cs r)) :
    Calls Yba.prog 4 #[.int .i64 n] w fun e w' => e = .returned (.bool true) ∧ Below w.heap.size w w' := by
  have hlt : cleanupTable Yba.prog < w.heap.size := (Array.getElem?_eq_some_iff.1 h).1
  have H1 : ∀ o, (w.alloc o).heap[cleanupTable Yba.prog]? = some (.finalizers cs r) := fun o => by rw [Below.heap_alloc _ _ _ hlt]; exact h
  have H2 : ∀ o o', ((w.alloc o).alloc o').heap[cleanupTable Yba.prog]? = some (.finalizers cs r) := fun o o' => by rw [Below.heap_alloc _ _ _ (by simp; omega)]; exact H1 o
  have K1 : Hid (∀ o, (w.alloc o).heap[cleanupTable Yba.prog]? = some (.finalizers cs r)) := H1
  have K2 : Hid (∀ o o', ((w.alloc o).alloc o').heap[cleanupTable Yba.prog]? = some (.finalizers cs r)) := H2
  clear H1 H2 h
  have hg := eql_g
  go_enter Yba.func4, Yba.ntmps4
  go_wp2_with fail
  refine (limiter_at w.os.procs _ _ _ (by rfl) cs r (by exact K1.out _)).mono ?_
  rintro e w1 ⟨rfl, rfl⟩
  go_wp2_with fail
  refine (limiter_at w.os.procs _ _ _ (by rfl) cs r (by exact K2.out _ _)).mono ?_
  rintro e w2 ⟨rfl, hw2⟩
  have hT : Two w w2 w.heap.size (w.heap.size + 1) (w.heap.size + 2) (spin w.os.procs 4096) (spin w.os.procs 32768) n := by rw [hw2]; exact two_of _ _ _ _ _ _
  clear hw2 K1 K2 hlt
  generalize spin w.os.procs 4096 = s1 at *
  generalize spin w.os.procs 32768 = s2 at *
  obtain ⟨a0, a1, a2, a5, b0, b1, b2, b5, hne, bel⟩ := hT
  go_wp2
  go_quiet (fail)
  go_wp2
  go_ret
  exact ⟨rfl, below_drewN bel _⟩

end Go.Proofs.Ybulkazji
