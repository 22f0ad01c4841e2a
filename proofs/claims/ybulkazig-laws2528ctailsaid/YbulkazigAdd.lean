/-
  Seat b2528a: the contract of add.
-/
import Derived.Test.YbulkazigLaws
namespace Go.Proofs.Ybulkazig
open Go.ChangeShapes Go.WideShapes Go.ChangeAt Go.RowKit
set_option linter.unusedVariables false
set_option linter.unusedSimpArgs false

/-- Of the old blocks at most ob and gb have turned. -/
structure Kept2 (w w' : World) (ob gb : Nat) : Prop where
  os : w'.os = w.os
  tape : w'.tape = w.tape
  output : w'.output = w.output
  size : w.heap.size ≤ w'.heap.size
  block : ∀ k, k < w.heap.size → k ≠ ob → k ≠ gb → w'.heap[k]? = w.heap[k]?

abbrev nodeV (nm : ByteArray) (p src self tot : Int) : Value := .agg #[.string nm, .int .i32 p, .int .u32 src, .int .i64 self, .int .i64 tot]
abbrev nodeC (nm : ByteArray) (p src self tot : Int) : List Value := [.string nm, .int .i32 p, .int .u32 src, .int .i64 self, .int .i64 tot]

theorem cells_new5 (W : World) (a b c d e : Value) (t : TypeId) (g : Nat) (hg : g = W.heap.size) : ∀ j u, [a, b, c, d, e][j]? = some u → (W.alloc (.cells #[a, b, c, d, e] t)).cell? ((⟨g, 0, none⟩ : Addr).add j) = some u := by
  intro j u hu
  subst hg
  rw [Addr.add_lit, Nat.zero_add]
  have : (W.alloc (.cells #[a, b, c, d, e] t)).heap[W.heap.size]? = some (.cells #[a, b, c, d, e] t) := heap_alloc_new W _
  unfold World.cell?
  rw [this]
  simpa using hu

theorem Hid.mk {p : Prop} (h : p) : Hid p := h

def Box13 (w' : World) (tb ob oc bx : Nat) (nm : ByteArray) (p src self tot : Int) : Prop :=
  w'.cell? ⟨tb, 0, none⟩ = some (.slice (some ⟨ob, 0, none⟩) 1 oc) ∧ w'.cell? ⟨bx, 0, none⟩ = some (.string nm) ∧ w'.cell? ⟨bx, 1, none⟩ = some (.int .i32 p) ∧ w'.cell? ⟨bx, 2, none⟩ = some (.int .u32 src) ∧ w'.cell? ⟨bx, 3, none⟩ = some (.int .i64 self) ∧ w'.cell? ⟨bx, 4, none⟩ = some (.int .i64 tot)

theorem kept13 {tb ob oc gb bx : Nat} {nm : ByteArray} {p src self tot : Int} (d2 : tb ≠ gb) (d3 : ob ≠ gb) (d4 : bx ≠ gb) {W w2 : World} {o : Obj} {v : Value} (hH : Box13 (W.alloc o).drew tb ob oc bx nm p src self tot) (a1 : W.cell? ⟨ob, 0, none⟩ = some v) (a2 : W.frozen? ⟨ob, 0, none⟩ = false)
    (b2 : ob < W.heap.size) (hg : (W.alloc o).drew.grownBy w2 (some gb)) :
    w2.cell? ⟨ob, 0, none⟩ = some v ∧ w2.frozen? ⟨ob, 0, none⟩ = false ∧ Box13 w2 tb ob oc bx nm p src self tot := by
  have e2 : w2.heap[ob]? = W.heap[ob]? := (hg.block ob (by show ob < (W.alloc o).heap.size; simp; omega) (by simpa using d3)).trans (Below.heap_alloc W o ob b2)
  have hk : ∀ b q u, b ≠ gb → (W.alloc o).drew.cell? ⟨b, q, none⟩ = some u → w2.cell? ⟨b, q, none⟩ = some u := fun b q u hb hu => hg.cell hu (by simpa using hb)
  exact ⟨(World.cell?_of_block (a := ⟨ob, 0, none⟩) e2).trans a1, (World.frozen?_of_block (a := ⟨ob, 0, none⟩) e2).trans a2, hk _ _ _ d2 hH.1, hk _ _ _ d4 hH.2.1, hk _ _ _ d4 hH.2.2.1, hk _ _ _ d4 hH.2.2.2.1, hk _ _ _ d4 hH.2.2.2.2.1, hk _ _ _ d4 hH.2.2.2.2.2⟩

theorem grownBy_setCell (w : World) (a : Addr) (v : Value) : w.grownBy (w.setCell a v) (some a.block) :=
  ⟨rfl, rfl, rfl, by simp [World.setCell], fun k hk hne => Below.heap_setCell _ _ _ _ (fun e => hne (by rw [e]))⟩

/-- What add leaves: W: the world ahead of the append; gb: the block of nodes as it was, gb': as it is. -/
theorem nodes13 {base tb ob oc gb gb' n nc' bx : Nat} {nm : ByteArray} {p src self tot : Int} {w W w2 : World} {o : Obj} {v : Value} {ys : List Value}
    (bt : base ≤ tb) (bo : base ≤ ob) (lt : tb < W.heap.size) (lo : ob < W.heap.size) (d1 : tb ≠ ob) (d2 : tb ≠ gb') (d3 : ob ≠ gb') (d5 : bx ≠ ob) (hn : n + 1 ≤ nc') (hc : nc' ≤ 4096)
    (hkW : Kept2 w W ob gb) (hgb : gb' = gb ∨ w.heap.size ≤ gb') (hH : Box13 w2 tb ob oc bx nm p src self tot) (e1 : w2.cell? ⟨ob, 0, none⟩ = some v) (e2 : w2.frozen? ⟨ob, 0, none⟩ = false)
    (hg : (W.alloc o).drew.grownBy w2 (some gb')) (hown2 : w2.ownsRow base 59 5 (.slice (some ⟨gb', 0, none⟩) (n + 1) nc') (n + 1) ys) :
    Nodes (w2.setCell ⟨ob, 0, none⟩ (.slice (some ⟨gb', 0, none⟩) (n + 1) nc')) base tb ob oc gb' (n + 1) nc' ys ∧ Kept2 w (w2.setCell ⟨ob, 0, none⟩ (.slice (some ⟨gb', 0, none⟩) (n + 1) nc')) ob gb ∧ Box13 (w2.setCell ⟨ob, 0, none⟩ (.slice (some ⟨gb', 0, none⟩) (n + 1) nc')) tb ob oc bx nm p src self tot := by
  have hsz : W.heap.size + 1 ≤ w2.heap.size := by have := hg.size; simpa using this
  have hfar : ∀ b q u, b ≠ ob → w2.cell? ⟨b, q, none⟩ = some u → (w2.setCell ⟨ob, 0, none⟩ (.slice (some ⟨gb', 0, none⟩) (n + 1) nc')).cell? ⟨b, q, none⟩ = some u := fun b q u hb hu => by
    rw [World.cell?_setCell_other _ _ _ _ (fun e => hb (by simpa using (congrArg Addr.block e).symm))]; exact hu
  refine ⟨⟨hfar _ _ _ d1 hH.1, World.cell?_setCell_same _ _ _ e1, (World.frozen?_setCell _ _ _ _).trans e2, hown2.kept (grownBy_setCell _ _ _) (.inr (by simpa [Value.ownBlock] using Ne.symm d3)), bt, bo, by simp [World.setCell]; omega, by simp [World.setCell]; omega, d1, d2, d3, by omega, hn, hc⟩, ?_, ?_⟩
  · refine ⟨hg.os.trans hkW.os, hg.tape.trans hkW.tape, hg.output.trans hkW.output, ?_, fun k hk h1 h2 => ?_⟩
    · have := hkW.size
      simp [World.setCell]; omega
    · have hkW' := hkW.size
      rw [Below.heap_setCell _ _ _ _ h1]
      have h3 : some k ≠ some gb' := by
        rcases hgb with rfl | hgb
        · simpa using h2
        · simp; omega
      exact ((hg.block k (by show k < (W.alloc o).heap.size; simp; omega) h3).trans (Below.heap_alloc W o k (by omega))).trans (hkW.block k hk h1 h2)
  · exact ⟨hfar _ _ _ d1 hH.1, hfar _ _ _ d5 hH.2.1, hfar _ _ _ d5 hH.2.2.1, hfar _ _ _ d5 hH.2.2.2.1, hfar _ _ _ d5 hH.2.2.2.2.1, hfar _ _ _ d5 hH.2.2.2.2.2⟩

theorem ret_int {k : IntKind} {a b : Int} (h : a = b) : Ending.returned (.int k a) = .returned (.int k b) := by rw [h]

set_option maxHeartbeats 2000000 in
theorem add_room {w : World} {base tb ob oc gb n nc : Nat} {xs : List Value} (h : Nodes w base tb ob oc gb n nc xs) (hr : n < nc) (nm : ByteArray) (p src self tot : Int) :
    Calls Yba.prog 9 #[.pointer (some ⟨tb, 0, none⟩), nodeV nm p src self tot] w fun e w' => e = .returned (.int .i64 n) ∧ Nodes w' base tb ob oc gb (n + 1) nc (xs ++ nodeC nm p src self tot) ∧ Kept2 w w' ob gb := by
  have c0 := h.c0
  have c1 := h.c1
  have f1 := h.f1
  have n3 := h.n3
  have lt := h.lt
  have lo := h.lo
  have hn4 : ((n : Int) == 4096) = false := by simp; omega
  have hnc : ((n : Int) == (nc : Int)) = false := by simp; omega
  obtain ⟨i0, hi, hz0, hz1, hz2⟩ := info_parts Yba.info59
  go_enter Yba.func9, Yba.ntmps9
  go_wp2
  go_quiet (fail)
  go_wp2
  have a0 : ((w.alloc (Obj.cells #[.string nm, .int .i32 p, .int .u32 src, .int .i64 self, .int .i64 tot] 59)).drewN nq).cell? ⟨tb, 0, none⟩ = some (.slice (some ⟨ob, 0, none⟩) 1 oc) := by go_simp
  have a1 : ((w.alloc (Obj.cells #[.string nm, .int .i32 p, .int .u32 src, .int .i64 self, .int .i64 tot] 59)).drewN nq).cell? ⟨ob, 0, none⟩ = some (.slice (some ⟨gb, 0, none⟩) n nc) := by go_simp
  have a2 : ((w.alloc (Obj.cells #[.string nm, .int .i32 p, .int .u32 src, .int .i64 self, .int .i64 tot] 59)).drewN nq).frozen? ⟨ob, 0, none⟩ = false := by go_simp
  have v0 : ((w.alloc (Obj.cells #[.string nm, .int .i32 p, .int .u32 src, .int .i64 self, .int .i64 tot] 59)).drewN nq).cell? ⟨w.heap.size, 0, none⟩ = some (.string nm) := by go_simp
  have v1 : ((w.alloc (Obj.cells #[.string nm, .int .i32 p, .int .u32 src, .int .i64 self, .int .i64 tot] 59)).drewN nq).cell? ⟨w.heap.size, 1, none⟩ = some (.int .i32 p) := by go_simp
  have v2 : ((w.alloc (Obj.cells #[.string nm, .int .i32 p, .int .u32 src, .int .i64 self, .int .i64 tot] 59)).drewN nq).cell? ⟨w.heap.size, 2, none⟩ = some (.int .u32 src) := by go_simp
  have v3 : ((w.alloc (Obj.cells #[.string nm, .int .i32 p, .int .u32 src, .int .i64 self, .int .i64 tot] 59)).drewN nq).cell? ⟨w.heap.size, 3, none⟩ = some (.int .i64 self) := by go_simp
  have v4 : ((w.alloc (Obj.cells #[.string nm, .int .i32 p, .int .u32 src, .int .i64 self, .int .i64 tot] 59)).drewN nq).cell? ⟨w.heap.size, 4, none⟩ = some (.int .i64 tot) := by go_simp
  have hs1 : ((w.alloc (Obj.cells #[.string nm, .int .i32 p, .int .u32 src, .int .i64 self, .int .i64 tot] 59)).drewN nq).heap.size = w.heap.size + 1 := by go_simp
  have ho1 : ((w.alloc (Obj.cells #[.string nm, .int .i32 p, .int .u32 src, .int .i64 self, .int .i64 tot] 59)).drewN nq).ownsRow base 59 5 (.slice (some ⟨gb, 0, none⟩) n nc) n xs := h.own.alloc _
  have hk1 : Kept2 w ((w.alloc (Obj.cells #[.string nm, .int .i32 p, .int .u32 src, .int .i64 self, .int .i64 tot] 59)).drewN nq) ob gb := ⟨rfl, rfl, rfl, (World.grownBy_alloc w _ none).size, fun k hk _ _ => (World.grownBy_alloc w _ none).block k hk (by simp)⟩
  generalize ((w.alloc (Obj.cells #[.string nm, .int .i32 p, .int .u32 src, .int .i64 self, .int .i64 tot] 59)).drewN nq) = W at *
  have b1 : tb < W.heap.size := by omega
  have b2 : ob < W.heap.size := by omega
  have b3 : w.heap.size < W.heap.size := by omega
  have HS := Hid.mk hs1
  clear hs1 c0 c1 f1 lt lo
  refine wp_region_held_drew (S := fun w' => w'.cell? ⟨tb, 0, none⟩ = some (.slice (some ⟨ob, 0, none⟩) 1 oc) ∧ w'.cell? ⟨w.heap.size, 0, none⟩ = some (.string nm) ∧ w'.cell? ⟨w.heap.size, 1, none⟩ = some (.int .i32 p) ∧ w'.cell? ⟨w.heap.size, 2, none⟩ = some (.int .u32 src) ∧ w'.cell? ⟨w.heap.size, 3, none⟩ = some (.int .i64 self) ∧ w'.cell? ⟨w.heap.size, 4, none⟩ = some (.int .i64 tot)) (by kernel_rfl) ⟨a0, v0, v1, v2, v3, v4⟩ (fun hHeld => ?_)
  refine wpAnyH_take (i := 0) (v := .pointer (some ⟨tb, 0, none⟩)) rfl (by kernel_rfl) (by kernel_rfl) (by kernel_rfl) (fun _ _ _ h => h) (Or.inl ⟨by rfl, fun w hSw => by dsimp only at hSw; go_simp⟩) hHeld ?_
  simp only [Act.put, List.setIfInBounds_toArray, List.set_cons_zero, List.set_cons_succ]
  refine wpAnyH_take (i := 1) (v := .pointer (some ⟨tb, 0, none⟩)) rfl (by kernel_rfl) (by kernel_rfl) (by kernel_rfl) (fun _ _ _ h => h) (Or.inl ⟨by rfl, fun w hSw => by dsimp only at hSw; go_simp⟩) hHeld ?_
  simp only [Act.put, List.setIfInBounds_toArray, List.set_cons_zero, List.set_cons_succ]
  refine wpAnyH_take (i := 2) (v := .pointer (some ⟨tb, 0, none⟩)) rfl (by kernel_rfl) (by kernel_rfl) (by kernel_rfl) (fun _ _ _ h => h) (Or.inl ⟨by rfl, fun w hSw => by dsimp only at hSw; go_simp⟩) hHeld ?_
  simp only [Act.put, List.setIfInBounds_toArray, List.set_cons_zero, List.set_cons_succ]
  refine wpAnyH_take (i := 3) (v := .slice (some ⟨ob, 0, none⟩) 1 oc) rfl (by kernel_rfl) (by kernel_rfl) (by kernel_rfl) (fun _ _ _ h => h) (Or.inl ⟨by rfl, fun w hSw => by dsimp only at hSw; go_simp⟩) hHeld ?_
  simp only [Act.put, List.setIfInBounds_toArray, List.set_cons_zero, List.set_cons_succ]
  refine wpAnyH_take (i := 4) (v := .int .i64 0) rfl (by kernel_rfl) (by kernel_rfl) (by kernel_rfl) (fun _ _ _ h => h) (Or.inl ⟨by rfl, fun w hSw => by dsimp only at hSw; go_simp⟩) hHeld ?_
  simp only [Act.put, List.setIfInBounds_toArray, List.set_cons_zero, List.set_cons_succ]
  refine wpAnyH_take (i := 5) (v := .pointer (some ⟨tb, 0, none⟩)) rfl (by kernel_rfl) (by kernel_rfl) (by kernel_rfl) (fun _ _ _ h => h) (Or.inl ⟨by rfl, fun w hSw => by dsimp only at hSw; go_simp⟩) hHeld ?_
  simp only [Act.put, List.setIfInBounds_toArray, List.set_cons_zero, List.set_cons_succ]
  refine wpAnyH_take (i := 6) (v := .pointer (some ⟨tb, 0, none⟩)) rfl (by kernel_rfl) (by kernel_rfl) (by kernel_rfl) (fun _ _ _ h => h) (Or.inl ⟨by rfl, fun w hSw => by dsimp only at hSw; go_simp⟩) hHeld ?_
  simp only [Act.put, List.setIfInBounds_toArray, List.set_cons_zero, List.set_cons_succ]
  refine wpAnyH_take (i := 7) (v := .pointer (some ⟨tb, 0, none⟩)) rfl (by kernel_rfl) (by kernel_rfl) (by kernel_rfl) (fun _ _ _ h => h) (Or.inl ⟨by rfl, fun w hSw => by dsimp only at hSw; go_simp⟩) hHeld ?_
  simp only [Act.put, List.setIfInBounds_toArray, List.set_cons_zero, List.set_cons_succ]
  refine wpAnyH_take (i := 8) (v := .slice (some ⟨ob, 0, none⟩) 1 oc) rfl (by kernel_rfl) (by kernel_rfl) (by kernel_rfl) (fun _ _ _ h => h) (Or.inl ⟨by rfl, fun w hSw => by dsimp only at hSw; go_simp⟩) hHeld ?_
  simp only [Act.put, List.setIfInBounds_toArray, List.set_cons_zero, List.set_cons_succ]
  refine wpAnyH_take (i := 9) (v := .int .i64 0) rfl (by kernel_rfl) (by kernel_rfl) (by kernel_rfl) (fun _ _ _ h => h) (Or.inl ⟨by rfl, fun w hSw => by dsimp only at hSw; go_simp⟩) hHeld ?_
  simp only [Act.put, List.setIfInBounds_toArray, List.set_cons_zero, List.set_cons_succ]
  refine wpAnyH_take (i := 10) (v := .pointer (some ⟨ob, 0, none⟩)) rfl (by kernel_rfl) (by kernel_rfl) (by kernel_rfl) (fun _ _ _ h => h) (Or.inl ⟨by rfl, fun w hSw => by dsimp only at hSw; go_simp⟩) hHeld ?_
  simp only [Act.put, List.setIfInBounds_toArray, List.set_cons_zero, List.set_cons_succ]
  refine wpAnyH_take (i := 12) (v := nodeV nm p src self tot) rfl (by kernel_rfl) (by kernel_rfl) (by kernel_rfl) (fun _ _ _ h => h) (Or.inl ⟨by rfl, fun w hSw => by dsimp only at hSw; go_simp⟩) hHeld ?_
  simp only [Act.put, List.setIfInBounds_toArray, List.set_cons_zero, List.set_cons_succ]
  refine wpAnyH_ready (rs := [11, 13]) (by kernel_rfl) (by simp) ?_
  refine AllReadyH.cons rfl (fun K hK => ?_) (AllReadyH.cons rfl (fun K hK => ?_) AllReadyH.nil)
  · go_simp
    refine hK.out _ _ hHeld (fun hHeld => ?_)
    clear hK K
    try simp only [Act.put, List.setIfInBounds_toArray, List.set_cons_zero, List.set_cons_succ]
    refine wpAnyH_ready (rs := [13]) (by kernel_rfl) (by simp) ?_
    refine AllReadyH.cons rfl (fun K hK => ?_) AllReadyH.nil
    go_simp
    refine hK.out _ _ (by go_keep) (fun hHeld => ?_)
    clear hK K
    try simp only [Act.put, List.setIfInBounds_toArray, List.set_cons_zero, List.set_cons_succ]
    refine wpAnyH_ready (rs := [14]) (by kernel_rfl) (by simp) ?_
    refine AllReadyH.cons rfl (fun K hK => ?_) AllReadyH.nil
    refine step_append_fits rfl (.tmp 102) (.tmp 104) 64 rfl base 59 i0 5 Yba.underlying64 hi hz1 gb n nc xs rfl (ho1.alloc _) ⟨W.heap.size, 0, none⟩ 1 1 (nodeC nm p src self tot) rfl rfl (cells_new5 _ _ _ _ _ _ _ _ rfl) (by simp [Value.oneCell']) (by omega) ?_
    intro w2 hown2 hg2
    obtain ⟨e1, e2, e3⟩ := kept13 h.d2 h.d3 (by have := h.bg.2; omega) hHeld a1 a2 b2 hg2
    refine hK.out _ _ e3 (fun hHeld => ?_)
    clear hK K
    try simp only [Act.put, List.setIfInBounds_toArray, List.set_cons_zero, List.set_cons_succ]
    refine wpAnyH_ready (rs := [15]) (by kernel_rfl) (by simp) ?_
    refine AllReadyH.cons rfl (fun K hK => ?_) AllReadyH.nil
    go_simp
    refine hK.out _ _ hHeld (fun hHeld => ?_)
    clear hK K
    try simp only [Act.put, List.setIfInBounds_toArray, List.set_cons_zero, List.set_cons_succ]
    refine wpAnyH_ready (rs := [16]) (by kernel_rfl) (by simp) ?_
    refine AllReadyH.cons rfl (fun K hK => ?_) AllReadyH.nil
    go_simp
    obtain ⟨hN, hK2, hB2⟩ := nodes13 h.bt h.bo b1 b2 h.d1 h.d2 h.d3 (by have := h.lo; omega) (by omega) n3 hk1 (.inl rfl) hHeld e1 e2 hg2 hown2
    refine hK.out _ _ hB2 (fun _ => ?_)
    clear hK K
    refine wpAnyH_done (by kernel_rfl) ?_ _
    clear hHeld a0 a1 a2 v0 v1 v2 v3 v4
    go_wp2_with (go_at_call 12; refine (len_any hN).mono ?_; rintro e w' ⟨rfl, rfl⟩)
    go_ret
    exact ⟨ret_int (by omega), hN, hK2⟩
  · go_simp
    refine hK.out _ _ (by go_keep) (fun hHeld => ?_)
    clear hK K
    try simp only [Act.put, List.setIfInBounds_toArray, List.set_cons_zero, List.set_cons_succ]
    refine wpAnyH_ready (rs := [11]) (by kernel_rfl) (by simp) ?_
    refine AllReadyH.cons rfl (fun K hK => ?_) AllReadyH.nil
    go_simp
    refine hK.out _ _ hHeld (fun hHeld => ?_)
    clear hK K
    try simp only [Act.put, List.setIfInBounds_toArray, List.set_cons_zero, List.set_cons_succ]
    refine wpAnyH_ready (rs := [14]) (by kernel_rfl) (by simp) ?_
    refine AllReadyH.cons rfl (fun K hK => ?_) AllReadyH.nil
    refine step_append_fits rfl (.tmp 102) (.tmp 104) 64 rfl base 59 i0 5 Yba.underlying64 hi hz1 gb n nc xs rfl (ho1.alloc _) ⟨W.heap.size, 0, none⟩ 1 1 (nodeC nm p src self tot) rfl rfl (cells_new5 _ _ _ _ _ _ _ _ rfl) (by simp [Value.oneCell']) (by omega) ?_
    intro w2 hown2 hg2
    obtain ⟨e1, e2, e3⟩ := kept13 h.d2 h.d3 (by have := h.bg.2; omega) hHeld a1 a2 b2 hg2
    refine hK.out _ _ e3 (fun hHeld => ?_)
    clear hK K
    try simp only [Act.put, List.setIfInBounds_toArray, List.set_cons_zero, List.set_cons_succ]
    refine wpAnyH_ready (rs := [15]) (by kernel_rfl) (by simp) ?_
    refine AllReadyH.cons rfl (fun K hK => ?_) AllReadyH.nil
    go_simp
    refine hK.out _ _ hHeld (fun hHeld => ?_)
    clear hK K
    try simp only [Act.put, List.setIfInBounds_toArray, List.set_cons_zero, List.set_cons_succ]
    refine wpAnyH_ready (rs := [16]) (by kernel_rfl) (by simp) ?_
    refine AllReadyH.cons rfl (fun K hK => ?_) AllReadyH.nil
    go_simp
    obtain ⟨hN, hK2, hB2⟩ := nodes13 h.bt h.bo b1 b2 h.d1 h.d2 h.d3 (by have := h.lo; omega) (by omega) n3 hk1 (.inl rfl) hHeld e1 e2 hg2 hown2
    refine hK.out _ _ hB2 (fun _ => ?_)
    clear hK K
    refine wpAnyH_done (by kernel_rfl) ?_ _
    clear hHeld a0 a1 a2 v0 v1 v2 v3 v4
    go_wp2_with (go_at_call 12; refine (len_any hN).mono ?_; rintro e w' ⟨rfl, rfl⟩)
    go_ret
    exact ⟨ret_int (by omega), hN, hK2⟩

end Go.Proofs.Ybulkazig
