/-
  Seat b2528a: the walk of LawS2528CTail.
-/
import Derived.Test.YbulkazigFolder
import Derived.Test.YbulkazigOpen
namespace Go.Proofs.Ybulkazig
open Go.ChangeShapes Go.WideShapes Go.ChangeAt Go.RowKit
set_option linter.unusedVariables false
set_option linter.unusedSimpArgs false

theorem Yba.info5 : (Yba.prog.info? 5).map (fun i => (i.zero, i.size, i.bytes)) = some (some (.int .u8 0), 1, 1) := by kernel_rfl

/-- append of one element to a nil slice. -/
theorem wpList_append_nil {P : Program} {ops : Array Oper} {rest : List Oper} {o : Oper} {a : Act} {w : World} {Q : Exit → Act → World → Prop}
    (hg : o.guard = none) (s x : Operand) (t : TypeId) (hop : o.op = Op.call { callee := Callee.builtin Builtin.append, args := #[s, x], argTypes := #[t, t] })
    (base : Nat) (e : TypeId) (i : TypeInfo) (z : Value) (bytes : Nat) (h1 : P.underlying t = some (.slice e)) (h2 : P.info? e = some i) (h3 : i.zero = some z) (h4 : i.size = 1) (h5 : i.bytes = bytes) (hz : z.cells.size = 1)
    (hs : a.eval s = .slice none 0 0) (ad : Addr) (c : Nat) (u : Value) (hx : a.eval x = .slice (some ad) 1 c)
    (hc : w.cell? ad = some u) (h1c : u.oneCell' = true) (hb : bytes ≤ 140737488355328) (hbase : base ≤ w.heap.size)
    (hK : ∀ g cap w', w'.ownsRow base e 1 (.slice (some ⟨g, 0, none⟩) 1 cap) 1 [u] → w.grownBy w' none → wpList P ops Q rest (a.put o.dst (.slice (some ⟨g, 0, none⟩) 1 cap)) w') :
    wpList P ops Q (o :: rest) a w := by
  refine wpList_plain hg fun K hK' => ?_
  obtain ⟨v', w', hrun, r1, r2, r3⟩ := run_append_own (P := P) w base t o.type e i z 1 bytes h1 h2 h3 h4 h5 hz (by omega) (.slice none 0 0) 0 [] (World.ownsRow_nil _ _ _ _) ad 1 c [u] rfl (fun j v hj => by
    match j, hj with
    | 0, hj => simp at hj; subst hj; simpa [Addr.add] using hc) (fun v hv => by simp at hv; subst hv; exact h1c) (by unfold maxLen; omega) (by simpa using hb) hbase
  simp only [Nat.zero_add, List.nil_append] at r1
  rcases r1.2 with ⟨rfl, h0⟩ | ⟨g, cap, cur, rfl, _⟩
  · omega
  · unfold Oper.wp
    simp [execOp, hop, resolve, invoke, builtin, hs, hx, hrun, Result.andThen]
    exact hK' _ _ (hK g cap w' r1 r2)

/-- What the closure leaves: the log at lb holds i alone; it hands back one byte. -/
structure Logged (w w' : World) (lb x : Nat) (i : Int) : Prop where
  log : ∃ y c, w'.cell? ⟨lb, 0, none⟩ = some (.slice (some ⟨y, 0, none⟩) 1 c) ∧ w'.cell? ⟨y, 0, none⟩ = some (.int .i64 i)
  out : w'.cell? ⟨x, 0, none⟩ = some (.int .u8 120)
  kept : Kept2 w w' lb lb

theorem logged1 {w w1 : World} {lb y c : Nat} {i : Int} {o : Obj} (lt : lb < w.heap.size) (c0 : w.cell? ⟨lb, 0, none⟩ = some (.slice none 0 0)) (f0 : w.frozen? ⟨lb, 0, none⟩ = false) (hg : (w.alloc o).grownBy w1 none) : w1.cell? ⟨lb, 0, none⟩ = some (.slice none 0 0) ∧ w1.frozen? ⟨lb, 0, none⟩ = false := by
  have e : w1.heap[lb]? = w.heap[lb]? := (hg.block lb (by simp; omega) (by simp)).trans (Below.heap_alloc w o lb lt)
  exact ⟨(World.cell?_of_block (a := ⟨lb, 0, none⟩) e).trans c0, (World.frozen?_of_block (a := ⟨lb, 0, none⟩) e).trans f0⟩

theorem logged2 {w w1 w2 : World} {lb y c x c2 : Nat} {i : Int} {o o2 : Obj} (lt : lb < w.heap.size) (hg : (w.alloc o).grownBy w1 none) (hown : w1.ownsRow w.heap.size 3 1 (.slice (some ⟨y, 0, none⟩) 1 c) 1 [.int .i64 i]) (t0 : w1.cell? ⟨lb, 0, none⟩ = some (.slice none 0 0))
    (hg2 : ((w1.setCell ⟨lb, 0, none⟩ (.slice (some ⟨y, 0, none⟩) 1 c)).alloc o2).grownBy w2 none) (hown2 : w2.ownsRow w.heap.size 5 1 (.slice (some ⟨x, 0, none⟩) 1 c2) 1 [.int .u8 120]) : Logged w w2 lb x i := by
  have hy := hown.lt y rfl
  have hs1 := hg.size
  simp at hs1
  have hs2 := hg2.size
  simp [World.setCell] at hs2
  have cy : w1.cell? ⟨y, 0, none⟩ = some (.int .i64 i) := by
    have := hown.cells (g := y) rfl 0 _ rfl
    simpa [Addr.add] using this
  have old : ∀ k, k < w1.heap.size → w2.heap[k]? = (w1.setCell ⟨lb, 0, none⟩ (.slice (some ⟨y, 0, none⟩) 1 c)).heap[k]? := fun k hk =>
    (hg2.block k (by simp [World.setCell]; omega) (by simp)).trans (Below.heap_alloc _ _ _ (by simpa [World.setCell] using hk))
  refine ⟨⟨y, c, ?_, ?_⟩, ?_, ?_⟩
  · rw [World.cell?_of_block (a := ⟨lb, 0, none⟩) (old lb (by omega))]
    exact World.cell?_setCell_same _ _ _ t0
  · rw [World.cell?_of_block (a := ⟨y, 0, none⟩) (old y hy.2), World.cell?_of_block (a := ⟨y, 0, none⟩) (Below.heap_setCell _ _ _ _ (by show y ≠ lb; omega))]
    exact cy
  · have := hown2.cells (g := x) rfl 0 _ rfl
    simpa [Addr.add] using this
  · refine ⟨hg2.os.trans hg.os, hg2.tape.trans hg.tape, hg2.output.trans hg.output, by omega, fun k hk h1 _ => ?_⟩
    rw [old k (by omega), Below.heap_setCell _ _ _ _ h1]
    exact (hg.block k (by simp; omega) (by simp)).trans (Below.heap_alloc w o k hk)

set_option maxHeartbeats 1000000 in
theorem closure_any (i : Int) (lb : Nat) (w : World) (lt : lb < w.heap.size) (c0 : w.cell? ⟨lb, 0, none⟩ = some (.slice none 0 0)) (f0 : w.frozen? ⟨lb, 0, none⟩ = false) :
    Calls Yba.prog 7 #[.int .i64 i, .slice none 0 0, .pointer (some ⟨lb, 0, none⟩)] w fun e w' => ∃ x c, e = .returned (.slice (some ⟨x, 0, none⟩) 1 c) ∧ Logged w w' lb x i := by
  obtain ⟨i0, hi, hz0, hz1, hz2⟩ := info_parts Yba.info3
  obtain ⟨i1, hj, hy0, hy1, hy2⟩ := info_parts Yba.info5
  go_enter Yba.func7, Yba.ntmps7
  go_wp2_with (first | (at_builtin; refine wpList_append_nil rfl (.tmp 6) (.tmp 8) 24 rfl w.heap.size 3 i0 _ 8 Yba.underlying24 hi hz0 hz1 hz2 rfl rfl _ 1 (.int .i64 i) rfl (by go_simp) rfl (by omega) (by simp) ?_; intro y c w1 hown1 hg1; obtain ⟨t0, t1⟩ := logged1 (y := y) (c := c) (i := i) lt c0 f0 hg1; have lt1 : lb < w1.heap.size := by have := hg1.size; simp at this; omega) | (at_builtin; refine wpList_append_nil rfl (.tmp 10) (.tmp 11) 35 rfl w.heap.size 5 i1 _ 1 Yba.underlying35 hj hy0 hy1 hy2 rfl rfl _ 1 (.int .u8 120) rfl (by go_simp) rfl (by omega) (by have := hg1.size; simp [World.setCell] at this ⊢; omega) ?_; intro x c2 w2 hown2 hg2))
  go_ret
  exact ⟨x, c2, rfl, logged2 lt hg1 hown1 t0 hg2 hown2⟩

theorem tail_big (ao : Option Addr) (n cap : Nat) (k : Int) (w : World) (hn : 1024 < n) (hm : n ≤ maxLen) :
    Calls Yba.prog 4 #[.slice ao n cap, .int .u8 k] w fun e w' => e = .returned (.bool true) ∧ Below w.heap.size w w' := by
  unfold maxLen at hm
  have hn' : (1024 : Int) < (n : Int) := by omega
  go_enter Yba.func4, Yba.ntmps4
  go_wp2
  go_ret
  exact ⟨rfl, Below.refl _ _⟩

theorem tail_end {w w1 W w4 : World} {o : Obj} (hb1 : Below w.heap.size w w1) (hbF : Below (w1.alloc o).heap.size (w1.alloc o) W) (l3 : Kept2 W w4 w1.heap.size w1.heap.size) : Below w.heap.size w w4 := by
  have h1 : Below w.heap.size w W := (hb1.alloc hb1.size o).trans (hbF.mono (by have := hb1.size; simp; omega))
  have hs := hb1.size
  exact ⟨l3.os.trans h1.os, l3.tape.trans h1.tape, l3.output.trans h1.output, Nat.le_trans h1.size l3.size, fun k hk => (l3.block k (Nat.lt_of_lt_of_le hk h1.size) (by omega) (by omega)).trans (h1.block k hk)⟩

theorem eql_fn (x : Fn) (y z : Array Value) (w : World) : (binOp .eql 29 (.func x y z) .nilFunc).run Yba.prog w = .ok (.bool false) w := by kernel_rfl

set_option maxRecDepth 100000 in
set_option maxHeartbeats 2000000 in
theorem tail_walk (ao : Option Addr) (n cap : Nat) (k : Int) (hk0 : 0 ≤ k) (hk1 : k ≤ 255) (E : Nat → Rw) (w : World) (hn : n ≤ 1024)
    (hB : Calls Yba.prog 5 #[.slice ao n cap] w fun e w' => ∃ tb q, e = .returned (.tuple #[.pointer (some ⟨tb, 0, none⟩), .slice (some ⟨q, 0, none⟩) (n + 1) (n + 1)]) ∧ Built w w' tb q n n E) :
    Calls Yba.prog 4 #[.slice ao n cap, .int .u8 k] w fun e w' => e = .returned (.bool true) ∧ Below w.heap.size w w' := by
  have hn' : (n : Int) ≤ 1024 := by omega
  have hq := eql_fn
  go_enter Yba.func4, Yba.ntmps4
  go_wp2_with (go_at_call 5; refine hB.mono ?_; rintro e w1 ⟨tb, q, rfl, hBt⟩)
  obtain ⟨ob, oc, gb, nc, hN, _, _, _⟩ := hBt.tree
  have hb1 := hBt.bel
  refine (folder_any (hN.kept (World.grownBy_alloc _ _ none) (by simp) (by simp) (by simp)) hn _ (.inr ⟨_, _, _, rfl⟩)).mono ?_
  rintro e W ⟨fb, rfl, hFo⟩
  have c1 := hFo.c1
  have hbF := hFo.bel
  clear hN hBt hFo hB
  have hlc : W.cell? ⟨w1.heap.size, 0, none⟩ = some (.slice none 0 0) := (hbF.cell (p := ⟨w1.heap.size, 0, none⟩) (by simp)).trans (by simp)
  have hlf : W.frozen? ⟨w1.heap.size, 0, none⟩ = false := (hbF.frozen (p := ⟨w1.heap.size, 0, none⟩) (by simp)).trans (by simp)
  have hll : w1.heap.size < W.heap.size := by have := hbF.size; simp at this; omega
  go_wp2_with (go_at_call 7; refine (closure_any _ _ _ hll hlc hlf).mono ?_; rintro e w4 ⟨x, c, rfl, hL⟩; obtain ⟨⟨y, cy, l0, l1⟩, l2, l3⟩ := hL)
  go_ret
  exact ⟨rfl, tail_end hb1 hbF l3⟩

end Go.Proofs.Ybulkazig
