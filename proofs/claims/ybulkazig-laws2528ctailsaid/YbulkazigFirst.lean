/-
  Seat b2528a: the contract of add on an empty list; NewTree.
-/
import Derived.Test.YbulkazigAdd
import Derived.Deep.CutRange
namespace Go.Proofs.Ybulkazig
open Go.ChangeShapes Go.WideShapes Go.ChangeAt Go.RowKit
set_option linter.unusedVariables false
set_option linter.unusedSimpArgs false

/-- append of one element to a nil slice, as one step of a region that draws its order. -/
theorem step_append_nil {P : Program} {ops : Array Oper} {o : Oper} {a : Act} {w : World} {K : Act → World → Prop} {Q : Exit → Act → World → Prop} {E : Prop}
    (hg : o.guard = none) (s x : Operand) (t : TypeId) (hop : o.op = Op.call { callee := Callee.builtin Builtin.append, args := #[s, x], argTypes := #[t, t] })
    (base : Nat) (e : TypeId) (i : TypeInfo) (z : Value) (bytes : Nat) (h1 : P.underlying t = some (.slice e)) (h2 : P.info? e = some i) (h3 : i.zero = some z) (h4 : i.size = 1) (h5 : i.bytes = bytes) (hz : z.cells.size = 1)
    (hs : a.eval s = .slice none 0 0) (ad : Addr) (c : Nat) (u : Value) (hx : a.eval x = .slice (some ad) 1 c)
    (hc : w.cell? ad = some u) (h1c : u.oneCell' = true) (hb : bytes ≤ 140737488355328) (hbase : base ≤ w.heap.size)
    (hK : ∀ g cap w', w'.ownsRow base e 1 (.slice (some ⟨g, 0, none⟩) 1 cap) 1 [u] → w.grownBy w' none → K (a.put o.dst (.slice (some ⟨g, 0, none⟩) 1 cap)) w') :
    if Region.wanted o (yielded ops a.tmps) = true then Oper.wp P o a w K Q else E := by
  have hw : Region.wanted o (yielded ops a.tmps) = true := by simp [Region.wanted, hg]
  rw [if_pos hw]
  obtain ⟨v', w', hrun, r1, r2, r3⟩ := run_append_own (P := P) w base t o.type e i z 1 bytes h1 h2 h3 h4 h5 hz (by omega) (.slice none 0 0) 0 [] (World.ownsRow_nil _ _ _ _) ad 1 c [u] rfl (fun j v hj => by
    match j, hj with
    | 0, hj => simp at hj; subst hj; simpa [Addr.add] using hc) (fun v hv => by simp at hv; subst hv; exact h1c) (by unfold maxLen; omega) (by simpa using hb) hbase
  simp only [Nat.zero_add, List.nil_append] at r1
  rcases r1.2 with ⟨rfl, h0⟩ | ⟨g, cap, cur, rfl, _⟩
  · omega
  · unfold Oper.wp
    simp [execOp, hop, resolve, invoke, builtin, hs, hx, hrun, Result.andThen]
    exact hK g cap w' r1 r2

theorem make01 (w : World) : (Instr.makeSlice 64 (.int .i64 0) (.int .i64 1)).run Yba.prog w = .ok (.slice (some ⟨w.heap.size, 0, none⟩) 0 1) (w.alloc (.cells #[.string ⟨#[]⟩, .int .i32 0, .int .u32 0, .int .i64 0, .int .i64 0] 59)) := by kernel_rfl

theorem Kept2.refl (w : World) (ob gb : Nat) : Kept2 w w ob gb := ⟨rfl, rfl, rfl, Nat.le_refl _, fun _ _ _ _ => rfl⟩

theorem Kept2.two {w W w' : World} {tb ob gb : Nat} (h : Kept2 w W tb tb) (k : Kept2 W w' ob gb) (h1 : w.heap.size ≤ ob) (h2 : w.heap.size ≤ gb) : Kept2 w w' tb tb :=
  ⟨k.os.trans h.os, k.tape.trans h.tape, k.output.trans h.output, Nat.le_trans h.size k.size, fun i hi ha hb => (k.block i (Nat.lt_of_lt_of_le hi h.size) (by omega) (by omega)).trans (h.block i hi ha hb)⟩

/-- The list of nodes behind the first append: one block, empty, with room for one. -/
def After1 (w wc : World) (base tb ob oc : Nat) (nm : ByteArray) (p src self tot : Int) : Prop :=
  wc.cell? ⟨tb, 0, none⟩ = some (.slice (some ⟨ob, 0, none⟩) 1 oc) ∧ wc.cell? ⟨ob, 0, none⟩ = some (.slice (some ⟨w.heap.size + 1, 0, none⟩) 0 1) ∧ wc.frozen? ⟨ob, 0, none⟩ = false ∧
  wc.cell? ⟨w.heap.size, 0, none⟩ = some (.string nm) ∧ wc.cell? ⟨w.heap.size, 1, none⟩ = some (.int .i32 p) ∧ wc.cell? ⟨w.heap.size, 2, none⟩ = some (.int .u32 src) ∧ wc.cell? ⟨w.heap.size, 3, none⟩ = some (.int .i64 self) ∧ wc.cell? ⟨w.heap.size, 4, none⟩ = some (.int .i64 tot) ∧
  wc.ownsRow base 59 5 (.slice (some ⟨w.heap.size + 1, 0, none⟩) 0 1) 0 [] ∧ Hid (w.heap.size + 3 ≤ ob ∧ ob < wc.heap.size ∧ w.heap.size + 3 ≤ wc.heap.size) ∧ Kept2 w wc tb tb

theorem first_kept {w w2 : World} {base tb ob oc : Nat} {nm : ByteArray} {p src self tot : Int} {o3 : Obj} (bt : base ≤ tb) (lt : tb < w.heap.size) (c0 : w.cell? ⟨tb, 0, none⟩ = some (.slice none 0 0)) (f0 : w.frozen? ⟨tb, 0, none⟩ = false)
    (hown : w2.ownsRow (w.heap.size + 3) 64 1 (.slice (some ⟨ob, 0, none⟩) 1 oc) 1 [.slice (some ⟨w.heap.size + 1, 0, none⟩) 0 1]) (hg : (((w.alloc (Obj.cells #[.string nm, .int .i32 p, .int .u32 src, .int .i64 self, .int .i64 tot] 59)).alloc (Obj.cells #[.string ⟨#[]⟩, .int .i32 0, .int .u32 0, .int .i64 0, .int .i64 0] 59)).alloc o3).drew.grownBy w2 none) :
    w2.cell? ⟨tb, 0, none⟩ = some (.slice none 0 0) ∧ w2.frozen? ⟨tb, 0, none⟩ = false ∧ After1 w (w2.setCell ⟨tb, 0, none⟩ (.slice (some ⟨ob, 0, none⟩) 1 oc)) base tb ob oc nm p src self tot := by
  have hsz : w.heap.size + 3 ≤ w2.heap.size := by have := hg.size; simpa using this
  have hob := hown.lt ob rfl
  have old : ∀ k, k < w.heap.size + 3 → w2.heap[k]? = (((w.alloc (Obj.cells #[.string nm, .int .i32 p, .int .u32 src, .int .i64 self, .int .i64 tot] 59)).alloc (Obj.cells #[.string ⟨#[]⟩, .int .i32 0, .int .u32 0, .int .i64 0, .int .i64 0] 59)).alloc o3).heap[k]? := fun k hk => hg.block k (by show k < (((w.alloc (Obj.cells #[.string nm, .int .i32 p, .int .u32 src, .int .i64 self, .int .i64 tot] 59)).alloc (Obj.cells #[.string ⟨#[]⟩, .int .i32 0, .int .u32 0, .int .i64 0, .int .i64 0] 59)).alloc o3).heap.size; simpa using hk) (by simp)
  have oldw : ∀ k, k < w.heap.size → w2.heap[k]? = w.heap[k]? := fun k hk => by
    rw [old k (by omega), Below.heap_alloc _ _ _ (by simp; omega), Below.heap_alloc _ _ _ (by simp; omega), Below.heap_alloc _ _ _ hk]
  have hbx : w2.heap[w.heap.size]? = some (Obj.cells #[.string nm, .int .i32 p, .int .u32 src, .int .i64 self, .int .i64 tot] 59) := by
    rw [old _ (by omega), Below.heap_alloc _ _ _ (by simp; omega), Below.heap_alloc _ _ _ (by simp)]
    exact heap_alloc_new w _
  have hmd : w2.heap[w.heap.size + 1]? = some (Obj.cells #[.string ⟨#[]⟩, .int .i32 0, .int .u32 0, .int .i64 0, .int .i64 0] 59) := by
    rw [old _ (by omega), Below.heap_alloc _ _ _ (by simp)]
    have := heap_alloc_new (w.alloc (Obj.cells #[.string nm, .int .i32 p, .int .u32 src, .int .i64 self, .int .i64 tot] 59)) (Obj.cells #[.string ⟨#[]⟩, .int .i32 0, .int .u32 0, .int .i64 0, .int .i64 0] 59)
    simpa using this
  have t0 : w2.cell? ⟨tb, 0, none⟩ = some (.slice none 0 0) := (World.cell?_of_block (a := ⟨tb, 0, none⟩) (oldw tb lt)).trans c0
  have t1 : w2.frozen? ⟨tb, 0, none⟩ = false := (World.frozen?_of_block (a := ⟨tb, 0, none⟩) (oldw tb lt)).trans f0
  have far : ∀ k, k ≠ tb → (w2.setCell ⟨tb, 0, none⟩ (.slice (some ⟨ob, 0, none⟩) 1 oc)).heap[k]? = w2.heap[k]? := fun k hk => Below.heap_setCell _ _ _ _ hk
  have hbx' := (far w.heap.size (by omega)).trans hbx
  have hmd' := (far (w.heap.size + 1) (by omega)).trans hmd
  have hoc : w2.cell? ⟨ob, 0, none⟩ = some (.slice (some ⟨w.heap.size + 1, 0, none⟩) 0 1) := by
    have := hown.cells (g := ob) rfl 0 _ rfl
    simpa [Addr.add] using this
  refine ⟨t0, t1, World.cell?_setCell_same _ _ _ t0, (World.cell?_of_block (a := ⟨ob, 0, none⟩) (far ob (by omega))).trans hoc, ?_, by simp [World.cell?, hbx'], by simp [World.cell?, hbx'], by simp [World.cell?, hbx'], by simp [World.cell?, hbx'], by simp [World.cell?, hbx'], ?_, Hid.mk ⟨hob.1, by simpa [World.setCell] using hob.2, by simpa [World.setCell] using hsz⟩, ⟨hg.os, hg.tape, hg.output, by simp [World.setCell]; omega, fun k hk h1 _ => (far k h1).trans (oldw k hk)⟩⟩
  · exact (World.frozen?_of_block (a := ⟨ob, 0, none⟩) (far ob (by omega))).trans (hown.frozenAt 0)
  · exact ⟨by simp, .inr ⟨w.heap.size + 1, 1, _, rfl, by omega, hmd', by omega, by unfold maxLen; omega, rfl, rfl⟩⟩

set_option maxHeartbeats 2000000 in
theorem add_first {w : World} {base tb : Nat} (c0 : w.cell? ⟨tb, 0, none⟩ = some (.slice none 0 0)) (f0 : w.frozen? ⟨tb, 0, none⟩ = false) (bt : base ≤ tb) (lt : tb < w.heap.size) (nm : ByteArray) (p src self tot : Int) :
    Calls Yba.prog 9 #[.pointer (some ⟨tb, 0, none⟩), nodeV nm p src self tot] w fun e w' => e = .returned (.int .i64 0) ∧ ∃ ob oc gb, Nodes w' base tb ob oc gb 1 1 (nodeC nm p src self tot) ∧ Kept2 w w' tb tb := by
  obtain ⟨i0, hi, hz0, hz1, hz2⟩ := info_parts Yba.info59
  obtain ⟨i1, hj, hy0, hy1, hy2⟩ := info_parts Yba.info64
  have hmk := make01
  have c3 : ∀ o1 o2 o3, (((w.alloc o1).alloc o2).alloc o3).cell? ⟨tb, 0, none⟩ = some (.slice none 0 0) := fun o1 o2 o3 => by
    refine (World.cell?_of_block (a := ⟨tb, 0, none⟩) ?_).trans c0
    rw [Below.heap_alloc _ _ _ (by simp; omega), Below.heap_alloc _ _ _ (by simp; omega), Below.heap_alloc _ _ _ lt]
  have hbase : base ≤ w.heap.size := by omega
  go_enter Yba.func9, Yba.ntmps9
  go_wp2
  go_cut [] from 17 to 26 (fun wc => ∃ ob oc, After1 w wc base tb ob oc nm p src self tot)
  case first =>
    go_region_law (refine step_append_nil rfl (.tmp 21) (.tmp 23) 44 rfl (w.heap.size + 3) 64 i1 _ 24 Yba.underlying44 hj hy0 hy1 hy2 rfl rfl _ 1 (.slice (some ⟨w.heap.size + 1, 0, none⟩) 0 1) rfl (by go_simp) rfl (by omega) (by simp) ?_; intro ob oc w2 hown2 hg2; obtain ⟨t0, t1, t2⟩ := first_kept bt lt c0 f0 hown2 hg2)
    all_goals (go_wp2_with fail; go_meet; case rel => exact ⟨ob, oc, t2⟩)
  case rest =>
    obtain ⟨ob, oc, a0, a1, a2, v0, v1, v2, v3, v4, ho1, HB, hk1⟩ := hcut
    obtain ⟨hb1, hb2, hb3⟩ := HB.out
    generalize wc = W at *
    have b1 : tb < W.heap.size := by omega
    have b2 : ob < W.heap.size := by omega
    have b3 : w.heap.size < W.heap.size := by omega
    clear c0 f0 c3
    go_wp2
    refine wp_region_held_drew (S := fun w' => w'.cell? ⟨tb, 0, none⟩ = some (.slice (some ⟨ob, 0, none⟩) 1 oc) ∧ w'.cell? ⟨w.heap.size, 0, none⟩ = some (.string nm) ∧ w'.cell? ⟨w.heap.size, 1, none⟩ = some (.int .i32 p) ∧ w'.cell? ⟨w.heap.size, 2, none⟩ = some (.int .u32 src) ∧ w'.cell? ⟨w.heap.size, 3, none⟩ = some (.int .i64 self) ∧ w'.cell? ⟨w.heap.size, 4, none⟩ = some (.int .i64 tot)) (by kernel_rfl) ⟨a0, v0, v1, v2, v3, v4⟩ (fun hHeld => ?_)
    refine wpAnyH_take (i := 0) (v := .pointer (some ⟨tb, 0, none⟩)) rfl (by kernel_rfl) (by kernel_rfl) (by kernel_rfl) (fun _ _ _ h => h) (Or.inl ⟨by rfl, fun w hSw => by dsimp only at hSw; go_simp⟩) hHeld ?_
    simp only [Act.put, List.setIfInBounds_toArray, List.set_cons_zero, List.set_cons_succ]
    refine wpAnyH_take (i := 1) (v := .pointer (some ⟨tb, 0, none⟩)) rfl (by kernel_rfl) (by kernel_rfl) (by kernel_rfl) (fun _ _ _ h => h) (Or.inl ⟨by rfl, fun w hSw => by dsimp only at hSw; go_simp⟩) hHeld ?_
    simp only [Act.put, List.setIfInBounds_toArray, List.set_cons_zero, List.set_cons_succ]
    refine wpAnyH_take (i := 2) (v := .pointer (some ⟨tb, 0, none⟩)) rfl (by kernel_rfl) (by kernel_rfl) (by kernel_rfl) (fun _ _ _ h => h) (Or.inl ⟨by rfl, fun w hSw => by dsimp only at hSw; go_simp⟩) hHeld ?_
    simp only [Act.put, List.setIfInBounds_toArray, List.set_cons_zero, List.set_cons_succ]
    refine wpAnyH_take (i := 3) (v := .slice (some ⟨ob, 0, none⟩) 1 oc) rfl (by kernel_rfl) (by kernel_rfl) (by kernel_rfl) (fun _ _ _ h => h) (Or.inl ⟨by rfl, fun w hSw => by dsimp only at hSw; go_simp⟩) hHeld ?_
    simp only [Act.put, List.setIfInBounds_toArray, List.set_cons_zero, List.set_cons_succ]
    refine wpAnyH_take (i := 4) (v := .int .i64 0) rfl (by kernel_rfl) (by kernel_rfl) (by kernel_rfl) (fun _ _ _ h => h) (Or.inl ⟨by rfl, fun w hSw => by dsimp only at hSw; go_simp⟩) hHeld ?_
    simp only [Act.put, List.setIfInBounds_toArray, List.set_cons_zero, List.set_cons_succ]
    refine wpAnyH_take (i := 5) (v := .pointer (some ⟨tb, 0, none⟩)) rfl (by kernel_rfl) (by kernel_rfl) (by kernel_rfl) (fun _ _ _ h => h) (Or.inl ⟨by rfl, fun w hSw => by dsimp only at hSw; go_simp⟩) hHeld ?_
    simp only [Act.put, List.setIfInBounds_toArray, List.set_cons_zero, List.set_cons_succ]
    refine wpAnyH_take (i := 6) (v := .pointer (some ⟨tb, 0, none⟩)) rfl (by kernel_rfl) (by kernel_rfl) (by kernel_rfl) (fun _ _ _ h => h) (Or.inl ⟨by rfl, fun w hSw => by dsimp only at hSw; go_simp⟩) hHeld ?_
    simp only [Act.put, List.setIfInBounds_toArray, List.set_cons_zero, List.set_cons_succ]
    refine wpAnyH_take (i := 7) (v := .pointer (some ⟨tb, 0, none⟩)) rfl (by kernel_rfl) (by kernel_rfl) (by kernel_rfl) (fun _ _ _ h => h) (Or.inl ⟨by rfl, fun w hSw => by dsimp only at hSw; go_simp⟩) hHeld ?_
    simp only [Act.put, List.setIfInBounds_toArray, List.set_cons_zero, List.set_cons_succ]
    refine wpAnyH_take (i := 8) (v := .slice (some ⟨ob, 0, none⟩) 1 oc) rfl (by kernel_rfl) (by kernel_rfl) (by kernel_rfl) (fun _ _ _ h => h) (Or.inl ⟨by rfl, fun w hSw => by dsimp only at hSw; go_simp⟩) hHeld ?_
    simp only [Act.put, List.setIfInBounds_toArray, List.set_cons_zero, List.set_cons_succ]
    refine wpAnyH_take (i := 9) (v := .int .i64 0) rfl (by kernel_rfl) (by kernel_rfl) (by kernel_rfl) (fun _ _ _ h => h) (Or.inl ⟨by rfl, fun w hSw => by dsimp only at hSw; go_simp⟩) hHeld ?_
    simp only [Act.put, List.setIfInBounds_toArray, List.set_cons_zero, List.set_cons_succ]
    refine wpAnyH_take (i := 10) (v := .pointer (some ⟨ob, 0, none⟩)) rfl (by kernel_rfl) (by kernel_rfl) (by kernel_rfl) (fun _ _ _ h => h) (Or.inl ⟨by rfl, fun w hSw => by dsimp only at hSw; go_simp⟩) hHeld ?_
    simp only [Act.put, List.setIfInBounds_toArray, List.set_cons_zero, List.set_cons_succ]
    refine wpAnyH_take (i := 12) (v := nodeV nm p src self tot) rfl (by kernel_rfl) (by kernel_rfl) (by kernel_rfl) (fun _ _ _ h => h) (Or.inl ⟨by rfl, fun w hSw => by dsimp only at hSw; go_simp⟩) hHeld ?_
    simp only [Act.put, List.setIfInBounds_toArray, List.set_cons_zero, List.set_cons_succ]
    refine wpAnyH_ready (rs := [11, 13]) (by kernel_rfl) (by simp) ?_
    refine AllReadyH.cons rfl (fun K hK => ?_) (AllReadyH.cons rfl (fun K hK => ?_) AllReadyH.nil)
    · go_simp
      refine hK.out _ _ hHeld (fun hHeld => ?_)
      clear hK K
      try simp only [Act.put, List.setIfInBounds_toArray, List.set_cons_zero, List.set_cons_succ]
      refine wpAnyH_ready (rs := [13]) (by kernel_rfl) (by simp) ?_
      refine AllReadyH.cons rfl (fun K hK => ?_) AllReadyH.nil
      go_simp
      refine hK.out _ _ (by go_keep) (fun hHeld => ?_)
      clear hK K
      try simp only [Act.put, List.setIfInBounds_toArray, List.set_cons_zero, List.set_cons_succ]
      refine wpAnyH_ready (rs := [14]) (by kernel_rfl) (by simp) ?_
      refine AllReadyH.cons rfl (fun K hK => ?_) AllReadyH.nil
      refine step_append_fits rfl (.tmp 102) (.tmp 104) 64 rfl base 59 i0 5 Yba.underlying64 hi hz1 (w.heap.size + 1) 0 1 [] rfl (ho1.alloc _) ⟨W.heap.size, 0, none⟩ 1 1 (nodeC nm p src self tot) rfl rfl (cells_new5 _ _ _ _ _ _ _ _ rfl) (by simp [Value.oneCell']) (by omega) ?_
      intro w2 hown2 hg2
      obtain ⟨e1, e2, e3⟩ := kept13 (by omega) (by omega) (by omega) hHeld a1 a2 b2 hg2
      refine hK.out _ _ e3 (fun hHeld => ?_)
      clear hK K
      try simp only [Act.put, List.setIfInBounds_toArray, List.set_cons_zero, List.set_cons_succ]
      refine wpAnyH_ready (rs := [15]) (by kernel_rfl) (by simp) ?_
      refine AllReadyH.cons rfl (fun K hK => ?_) AllReadyH.nil
      go_simp
      refine hK.out _ _ hHeld (fun hHeld => ?_)
      clear hK K
      try simp only [Act.put, List.setIfInBounds_toArray, List.set_cons_zero, List.set_cons_succ]
      refine wpAnyH_ready (rs := [16]) (by kernel_rfl) (by simp) ?_
      refine AllReadyH.cons rfl (fun K hK => ?_) AllReadyH.nil
      go_simp
      obtain ⟨hN, hK2, hB2⟩ := nodes13 (w := W) (n := 0) (nc' := 1) bt (by omega) b1 b2 (by omega) (by omega) (by omega) (by omega) (by omega) (by omega) (Kept2.refl W ob (w.heap.size + 1)) (.inl rfl) hHeld e1 e2 hg2 hown2
      refine hK.out _ _ hB2 (fun _ => ?_)
      clear hK K
      refine wpAnyH_done (by kernel_rfl) ?_ _
      clear hHeld a0 a1 a2 v0 v1 v2 v3 v4
      go_wp2_with (go_at_call 12; refine (len_any hN).mono ?_; rintro e w' ⟨rfl, rfl⟩)
      go_ret
      exact ⟨rfl, ob, oc, _, hN, hk1.two hK2 (by omega) (by omega)⟩
    · go_simp
      refine hK.out _ _ (by go_keep) (fun hHeld => ?_)
      clear hK K
      try simp only [Act.put, List.setIfInBounds_toArray, List.set_cons_zero, List.set_cons_succ]
      refine wpAnyH_ready (rs := [11]) (by kernel_rfl) (by simp) ?_
      refine AllReadyH.cons rfl (fun K hK => ?_) AllReadyH.nil
      go_simp
      refine hK.out _ _ hHeld (fun hHeld => ?_)
      clear hK K
      try simp only [Act.put, List.setIfInBounds_toArray, List.set_cons_zero, List.set_cons_succ]
      refine wpAnyH_ready (rs := [14]) (by kernel_rfl) (by simp) ?_
      refine AllReadyH.cons rfl (fun K hK => ?_) AllReadyH.nil
      refine step_append_fits rfl (.tmp 102) (.tmp 104) 64 rfl base 59 i0 5 Yba.underlying64 hi hz1 (w.heap.size + 1) 0 1 [] rfl (ho1.alloc _) ⟨W.heap.size, 0, none⟩ 1 1 (nodeC nm p src self tot) rfl rfl (cells_new5 _ _ _ _ _ _ _ _ rfl) (by simp [Value.oneCell']) (by omega) ?_
      intro w2 hown2 hg2
      obtain ⟨e1, e2, e3⟩ := kept13 (by omega) (by omega) (by omega) hHeld a1 a2 b2 hg2
      refine hK.out _ _ e3 (fun hHeld => ?_)
      clear hK K
      try simp only [Act.put, List.setIfInBounds_toArray, List.set_cons_zero, List.set_cons_succ]
      refine wpAnyH_ready (rs := [15]) (by kernel_rfl) (by simp) ?_
      refine AllReadyH.cons rfl (fun K hK => ?_) AllReadyH.nil
      go_simp
      refine hK.out _ _ hHeld (fun hHeld => ?_)
      clear hK K
      try simp only [Act.put, List.setIfInBounds_toArray, List.set_cons_zero, List.set_cons_succ]
      refine wpAnyH_ready (rs := [16]) (by kernel_rfl) (by simp) ?_
      refine AllReadyH.cons rfl (fun K hK => ?_) AllReadyH.nil
      go_simp
      obtain ⟨hN, hK2, hB2⟩ := nodes13 (w := W) (n := 0) (nc' := 1) bt (by omega) b1 b2 (by omega) (by omega) (by omega) (by omega) (by omega) (by omega) (Kept2.refl W ob (w.heap.size + 1)) (.inl rfl) hHeld e1 e2 hg2 hown2
      refine hK.out _ _ hB2 (fun _ => ?_)
      clear hK K
      refine wpAnyH_done (by kernel_rfl) ?_ _
      clear hHeld a0 a1 a2 v0 v1 v2 v3 v4
      go_wp2_with (go_at_call 12; refine (len_any hN).mono ?_; rintro e w' ⟨rfl, rfl⟩)
      go_ret
      exact ⟨rfl, ob, oc, _, hN, hk1.two hK2 (by omega) (by omega)⟩
  

end Go.Proofs.Ybulkazig
