/-
  Seat b2528a: the contract of add where the block of nodes is full.
-/
import Derived.Test.YbulkazigAdd
namespace Go.Proofs.Ybulkazig
open Go.ChangeShapes Go.WideShapes Go.ChangeAt Go.RowKit
set_option linter.unusedVariables false
set_option linter.unusedSimpArgs false

/-- Behind the make: the cells that matter. -/
theorem made_kept {w : World} {base tb ob oc gb n : Nat} {xs : List Value} (h : Nodes w base tb ob oc gb n n xs) (nm : ByteArray) (p src self tot : Int) (nq : Nat) {w1 : World}
    (hg : ((w.alloc (Obj.cells #[.string nm, .int .i32 p, .int .u32 src, .int .i64 self, .int .i64 tot] 59)).drewN nq).grownBy w1 none) (HS : Hid (w1.heap.size = ((w.alloc (Obj.cells #[.string nm, .int .i32 p, .int .u32 src, .int .i64 self, .int .i64 tot] 59)).drewN nq).heap.size + 1)) :
    Box13 w1 tb ob oc w.heap.size nm p src self tot ∧ w1.cell? ⟨ob, 0, none⟩ = some (.slice (some ⟨gb, 0, none⟩) n n) ∧ w1.frozen? ⟨ob, 0, none⟩ = false ∧ Hid (w1.heap.size = w.heap.size + 2) ∧ (tb < w.heap.size ∧ ob < w.heap.size ∧ gb < w.heap.size) ∧ (∀ j v, xs[j]? = some v → w1.cell? ((⟨gb, 0, none⟩ : Addr).add j) = some v) := by
  have hgl := h.bg.2
  have lt := h.lt
  have lo := h.lo
  have e : ((w.alloc (Obj.cells #[.string nm, .int .i32 p, .int .u32 src, .int .i64 self, .int .i64 tot] 59)).drewN nq).heap.size = w.heap.size + 1 := by go_simp
  have old : ∀ k, k < w.heap.size → w1.heap[k]? = w.heap[k]? := fun k hk => (hg.block k (by rw [e]; omega) (by simp)).trans (Below.heap_alloc w _ k hk)
  have hcell : ∀ k q, k < w.heap.size → w1.cell? ⟨k, q, none⟩ = w.cell? ⟨k, q, none⟩ := fun k q hk => World.cell?_of_block (a := ⟨k, q, none⟩) (old k hk)
  have hbox : ∀ q u, ((w.alloc (Obj.cells #[.string nm, .int .i32 p, .int .u32 src, .int .i64 self, .int .i64 tot] 59)).drewN nq).cell? ⟨w.heap.size, q, none⟩ = some u → w1.cell? ⟨w.heap.size, q, none⟩ = some u := fun q u hu => hg.cell hu (by simp)
  refine ⟨⟨(hcell _ _ lt).trans h.c0, hbox _ _ (by go_simp), hbox _ _ (by go_simp), hbox _ _ (by go_simp), hbox _ _ (by go_simp), hbox _ _ (by go_simp)⟩, (hcell _ _ lo).trans h.c1, (World.frozen?_of_block (a := ⟨ob, 0, none⟩) (old ob lo)).trans h.f1, ?_, ⟨lt, lo, hgl⟩, fun j v hj => ?_⟩
  · have := HS.out
    rw [e] at this
    exact this
  · have hc := h.own.cells (g := gb) rfl j v hj
    rw [Addr.add_lit] at hc ⊢
    exact (hcell _ _ hgl).trans hc

theorem made_frame {w : World} {base tb ob oc gb n : Nat} {xs : List Value} (h : Nodes w base tb ob oc gb n n xs) (nm : ByteArray) (p src self tot : Int) (nq : Nat) {w1 : World}
    (hg : ((w.alloc (Obj.cells #[.string nm, .int .i32 p, .int .u32 src, .int .i64 self, .int .i64 tot] 59)).drewN nq).grownBy w1 none) : Kept2 w w1 ob gb := by
  have e : ((w.alloc (Obj.cells #[.string nm, .int .i32 p, .int .u32 src, .int .i64 self, .int .i64 tot] 59)).drewN nq).heap.size = w.heap.size + 1 := by go_simp
  exact ⟨hg.os, hg.tape, hg.output, by have := hg.size; omega, fun k hk _ _ => (hg.block k (by omega) (by simp)).trans (Below.heap_alloc w _ k hk)⟩

/-- Behind the copy. -/
theorem copied_kept {w w1 w2 : World} {tb ob oc gb n : Nat} {nm : ByteArray} {p src self tot : Int}
    (r0 : Box13 w1 tb ob oc w.heap.size nm p src self tot) (r1 : w1.cell? ⟨ob, 0, none⟩ = some (.slice (some ⟨gb, 0, none⟩) n n)) (r2 : w1.frozen? ⟨ob, 0, none⟩ = false) (r3 : Hid (w1.heap.size = w.heap.size + 2)) (g0 : tb < w.heap.size) (g1 : ob < w.heap.size) (g2 : gb < w.heap.size)
    (hg : w1.grownBy w2 (some (w.heap.size + 1))) : w2.cell? ⟨tb, 0, none⟩ = some (.slice (some ⟨ob, 0, none⟩) 1 oc) ∧ w2.cell? ⟨ob, 0, none⟩ = some (.slice (some ⟨gb, 0, none⟩) n n) ∧ w2.frozen? ⟨ob, 0, none⟩ = false ∧ Box13 w2 tb ob oc w.heap.size nm p src self tot := by
  have hs := r3.out
  have hk : ∀ b q u, b ≠ w.heap.size + 1 → w1.cell? ⟨b, q, none⟩ = some u → w2.cell? ⟨b, q, none⟩ = some u := fun b q u hb hu => hg.cell hu (by simpa using hb)
  have hbx : w.heap.size ≠ w.heap.size + 1 := by omega
  have htb : tb ≠ w.heap.size + 1 := by omega
  have hob : ob ≠ w.heap.size + 1 := by omega
  exact ⟨hk _ _ _ htb r0.1, hk _ _ _ hob r1, (World.frozen?_of_block (a := ⟨ob, 0, none⟩) (hg.block ob (by omega) (by simpa using hob))).trans r2, hk _ _ _ htb r0.1, hk _ _ _ hbx r0.2.1, hk _ _ _ hbx r0.2.2.1, hk _ _ _ hbx r0.2.2.2.1, hk _ _ _ hbx r0.2.2.2.2.1, hk _ _ _ hbx r0.2.2.2.2.2⟩

/-- Behind the store of the grown block. -/
theorem stored_kept {w w1 w2 : World} {base tb ob oc gb n : Nat} {xs : List Value} {nm : ByteArray} {p src self tot : Int} (h : Nodes w base tb ob oc gb n n xs) (r3 : Hid (w1.heap.size = w.heap.size + 2))
    (s0 : w2.cell? ⟨tb, 0, none⟩ = some (.slice (some ⟨ob, 0, none⟩) 1 oc)) (s1 : w2.cell? ⟨ob, 0, none⟩ = some (.slice (some ⟨gb, 0, none⟩) n n)) (s2 : w2.frozen? ⟨ob, 0, none⟩ = false) (s3 : Box13 w2 tb ob oc w.heap.size nm p src self tot)
    (hown : w2.ownsRow base 59 5 (.slice (some ⟨w.heap.size + 1, 0, none⟩) n (2 * n)) n xs) (hg : w1.grownBy w2 (some (w.heap.size + 1))) (hK : Kept2 w w1 ob gb) :
    (w2.setCell ⟨ob, 0, none⟩ (.slice (some ⟨w.heap.size + 1, 0, none⟩) n (2 * n))).cell? ⟨tb, 0, none⟩ = some (.slice (some ⟨ob, 0, none⟩) 1 oc) ∧ (w2.setCell ⟨ob, 0, none⟩ (.slice (some ⟨w.heap.size + 1, 0, none⟩) n (2 * n))).cell? ⟨ob, 0, none⟩ = some (.slice (some ⟨w.heap.size + 1, 0, none⟩) n (2 * n)) ∧ (w2.setCell ⟨ob, 0, none⟩ (.slice (some ⟨w.heap.size + 1, 0, none⟩) n (2 * n))).frozen? ⟨ob, 0, none⟩ = false ∧
    (w2.setCell ⟨ob, 0, none⟩ (.slice (some ⟨w.heap.size + 1, 0, none⟩) n (2 * n))).cell? ⟨w.heap.size, 0, none⟩ = some (.string nm) ∧ (w2.setCell ⟨ob, 0, none⟩ (.slice (some ⟨w.heap.size + 1, 0, none⟩) n (2 * n))).cell? ⟨w.heap.size, 1, none⟩ = some (.int .i32 p) ∧ (w2.setCell ⟨ob, 0, none⟩ (.slice (some ⟨w.heap.size + 1, 0, none⟩) n (2 * n))).cell? ⟨w.heap.size, 2, none⟩ = some (.int .u32 src) ∧ (w2.setCell ⟨ob, 0, none⟩ (.slice (some ⟨w.heap.size + 1, 0, none⟩) n (2 * n))).cell? ⟨w.heap.size, 3, none⟩ = some (.int .i64 self) ∧ (w2.setCell ⟨ob, 0, none⟩ (.slice (some ⟨w.heap.size + 1, 0, none⟩) n (2 * n))).cell? ⟨w.heap.size, 4, none⟩ = some (.int .i64 tot) ∧
    Hid (w.heap.size + 2 ≤ (w2.setCell ⟨ob, 0, none⟩ (.slice (some ⟨w.heap.size + 1, 0, none⟩) n (2 * n))).heap.size) ∧ (w2.setCell ⟨ob, 0, none⟩ (.slice (some ⟨w.heap.size + 1, 0, none⟩) n (2 * n))).ownsRow base 59 5 (.slice (some ⟨w.heap.size + 1, 0, none⟩) n (2 * n)) n xs ∧ Kept2 w (w2.setCell ⟨ob, 0, none⟩ (.slice (some ⟨w.heap.size + 1, 0, none⟩) n (2 * n))) ob gb := by
  have hs := r3.out
  have lo := h.lo
  have hsz := hg.size
  have hfar : ∀ b q u, b ≠ ob → w2.cell? ⟨b, q, none⟩ = some u → (w2.setCell ⟨ob, 0, none⟩ (.slice (some ⟨w.heap.size + 1, 0, none⟩) n (2 * n))).cell? ⟨b, q, none⟩ = some u := fun b q u hb hu => by
    rw [World.cell?_setCell_other _ _ _ _ (fun e => hb (by simpa using (congrArg Addr.block e).symm))]; exact hu
  have hbx : w.heap.size ≠ ob := by omega
  refine ⟨hfar _ _ _ h.d1 s0, World.cell?_setCell_same _ _ _ s1, (World.frozen?_setCell _ _ _ _).trans s2, hfar _ _ _ hbx s3.2.1, hfar _ _ _ hbx s3.2.2.1, hfar _ _ _ hbx s3.2.2.2.1, hfar _ _ _ hbx s3.2.2.2.2.1, hfar _ _ _ hbx s3.2.2.2.2.2, Hid.mk (by simp [World.setCell]; omega), hown.kept (grownBy_setCell _ _ _) (.inr (by simp [Value.ownBlock]; omega)), ?_⟩
  refine ⟨hg.os.trans hK.os, hg.tape.trans hK.tape, hg.output.trans hK.output, by have := hK.size; simp [World.setCell]; omega, fun k hk h1 h2 => ?_⟩
  rw [Below.heap_setCell _ _ _ _ h1]
  exact (hg.block k (by omega) (by simp; omega)).trans (hK.block k hk h1 h2)

set_option maxHeartbeats 2000000 in
theorem add_full {w : World} {base tb ob oc gb n : Nat} {xs : List Value} (h : Nodes w base tb ob oc gb n n xs) (hx1 : ∀ v ∈ xs, v.oneCell' = true) (hn : n ≤ 2048) (nm : ByteArray) (p src self tot : Int) :
    Calls Yba.prog 9 #[.pointer (some ⟨tb, 0, none⟩), nodeV nm p src self tot] w fun e w' => e = .returned (.int .i64 n) ∧ ∃ gb', w.heap.size ≤ gb' ∧ Nodes w' base tb ob oc gb' (n + 1) (2 * n) (xs ++ nodeC nm p src self tot) ∧ Kept2 w w' ob gb := by
  have c0 := h.c0
  have c1 := h.c1
  have f1 := h.f1
  have lt := h.lt
  have lo := h.lo
  have n1 := h.n1
  have hlen := h.own.1
  have hn4 : ((n : Int) == 4096) = false := by simp; omega
  have hbase : base ≤ w.heap.size := by have := h.bt; omega
  obtain ⟨i0, hi, hz0, hz1, hz2⟩ := info_parts Yba.info59
  have hbytes : i0.bytes * (2 * n) ≤ 281474976710656 := by rw [hz2]; omega
  have hmax : 2 * n ≤ maxLen := by unfold maxLen; omega
  go_enter Yba.func9, Yba.ntmps9
  go_wp2
  go_quiet (fail)
  go_upto_region 11 with (at_make; refine wpList_make_part _ rfl (.tmp 75) (.tmp 79) 64 rfl base 59 i0 _ 5 Yba.underlying64 hi hz0 hz1 _ _ _ _ n (2 * n) rfl rfl rfl (by omega) (by omega) hbytes hmax (Nat.le_trans hbase (by simp)) ?_; intro w1 ys hown1 hg1 hs1)
  have HS1 := Hid.mk hs1
  clear hs1
  obtain ⟨r0, r1, r2, r3, r4, r5⟩ := made_kept h nm p src self tot nq hg1 HS1
  obtain ⟨g0, g1, g2⟩ := r4
  have hown1' : w1.ownsRow base 59 5 (.slice (some ⟨w.heap.size + 1, 0, none⟩) n (2 * n)) n ys := by
    have e : ((w.alloc (Obj.cells #[.string nm, .int .i32 p, .int .u32 src, .int .i64 self, .int .i64 tot] 59)).drewN nq).heap.size = w.heap.size + 1 := by go_simp
    rw [e] at hown1
    exact hown1
  have hK1 := made_frame h nm p src self tot nq hg1
  clear hown1 hg1
  go_wp2_with (refine wpList_copy_rows rfl (.tmp 81) (.tmp 82) 64 64 rfl 59 i0 5 base (w.heap.size + 1) n (2 * n) ⟨gb, 0, none⟩ n ys xs Yba.underlying64 hi hz1 rfl rfl hown1' hlen r5 hx1 ?_; intro w2 hown2 hg2; obtain ⟨s0, s1, s2, s3⟩ := copied_kept r0 r1 r2 r3 g0 g1 g2 hg2)
  obtain ⟨a0, a1, a2, v0, v1, v2, v3, v4, HS, ho1, hk1⟩ := stored_kept (n := n) h r3 s0 s1 s2 s3 hown2 hg2 hK1
  clear s0 s1 s2 s3 hown2 hg2 hown1' r0 r1 r2 r3 r5
  generalize (w2.setCell ⟨ob, 0, none⟩ (.slice (some ⟨w.heap.size + 1, 0, none⟩) n (2 * n))) = W at *
  have hs1 := HS.out
  have b1 : tb < W.heap.size := by omega
  have b2 : ob < W.heap.size := by omega
  have b3 : w.heap.size < W.heap.size := by omega
  clear hs1 c0 c1 f1 lt lo
  refine wp_region_held_drew (S := fun w' => w'.cell? ⟨tb, 0, none⟩ = some (.slice (some ⟨ob, 0, none⟩) 1 oc) ∧ w'.cell? ⟨w.heap.size, 0, none⟩ = some (.string nm) ∧ w'.cell? ⟨w.heap.size, 1, none⟩ = some (.int .i32 p) ∧ w'.cell? ⟨w.heap.size, 2, none⟩ = some (.int .u32 src) ∧ w'.cell? ⟨w.heap.size, 3, none⟩ = some (.int .i64 self) ∧ w'.cell? ⟨w.heap.size, 4, none⟩ = some (.int .i64 tot)) (by kernel_rfl) ⟨a0, v0, v1, v2, v3, v4⟩ (fun hHeld => ?_)
  refine wpAnyH_take (i := 0) (v := .pointer (some ⟨tb, 0, none⟩)) rfl (by kernel_rfl) (by kernel_rfl) (by kernel_rfl) (fun _ _ _ h => h) (Or.inl ⟨by rfl, fun w hSw => by dsimp only at hSw; go_simp⟩) hHeld ?_
  simp only [Act.put, List.setIfInBounds_toArray, List.set_cons_zero, List.set_cons_succ]
  refine wpAnyH_take (i := 1) (v := .pointer (some ⟨tb, 0, none⟩)) rfl (by kernel_rfl) (by kernel_rfl) (by kernel_rfl) (fun _ _ _ h => h) (Or.inl ⟨by rfl, fun w hSw => by dsimp only at hSw; go_simp⟩) hHeld ?_
  simp only [Act.put, List.setIfInBounds_toArray, List.set_cons_zero, List.set_cons_succ]
  refine wpAnyH_take (i := 2) (v := .pointer (some ⟨tb, 0, none⟩)) rfl (by kernel_rfl) (by kernel_rfl) (by kernel_rfl) (fun _ _ _ h => h) (Or.inl ⟨by rfl, fun w hSw => by dsimp only at hSw; go_simp⟩) hHeld ?_
  simp only [Act.put, List.setIfInBounds_toArray, List.set_cons_zero, List.set_cons_succ]
  refine wpAnyH_take (i := 3) (v := .slice (some ⟨ob, 0, none⟩) 1 oc) rfl (by kernel_rfl) (by kernel_rfl) (by kernel_rfl) (fun _ _ _ h => h) (Or.inl ⟨by rfl, fun w hSw => by dsimp only at hSw; go_simp⟩) hHeld ?_
  simp only [Act.put, List.setIfInBounds_toArray, List.set_cons_zero, List.set_cons_succ]
  refine wpAnyH_take (i := 4) (v := .int .i64 0) rfl (by kernel_rfl) (by kernel_rfl) (by kernel_rfl) (fun _ _ _ h => h) (Or.inl ⟨by rfl, fun w hSw => by dsimp only at hSw; go_simp⟩) hHeld ?_
  simp only [Act.put, List.setIfInBounds_toArray, List.set_cons_zero, List.set_cons_succ]
  refine wpAnyH_take (i := 5) (v := .pointer (some ⟨tb, 0, none⟩)) rfl (by kernel_rfl) (by kernel_rfl) (by kernel_rfl) (fun _ _ _ h => h) (Or.inl ⟨by rfl, fun w hSw => by dsimp only at hSw; go_simp⟩) hHeld ?_
  simp only [Act.put, List.setIfInBounds_toArray, List.set_cons_zero, List.set_cons_succ]
  refine wpAnyH_take (i := 6) (v := .pointer (some ⟨tb, 0, none⟩)) rfl (by kernel_rfl) (by kernel_rfl) (by kernel_rfl) (fun _ _ _ h => h) (Or.inl ⟨by rfl, fun w hSw => by dsimp only at hSw; go_simp⟩) hHeld ?_
  simp only [Act.put, List.setIfInBounds_toArray, List.set_cons_zero, List.set_cons_succ]
  refine wpAnyH_take (i := 7) (v := .pointer (some ⟨tb, 0, none⟩)) rfl (by kernel_rfl) (by kernel_rfl) (by kernel_rfl) (fun _ _ _ h => h) (Or.inl ⟨by rfl, fun w hSw => by dsimp only at hSw; go_simp⟩) hHeld ?_
  simp only [Act.put, List.setIfInBounds_toArray, List.set_cons_zero, List.set_cons_succ]
  refine wpAnyH_take (i := 8) (v := .slice (some ⟨ob, 0, none⟩) 1 oc) rfl (by kernel_rfl) (by kernel_rfl) (by kernel_rfl) (fun _ _ _ h => h) (Or.inl ⟨by rfl, fun w hSw => by dsimp only at hSw; go_simp⟩) hHeld ?_
  simp only [Act.put, List.setIfInBounds_toArray, List.set_cons_zero, List.set_cons_succ]
  refine wpAnyH_take (i := 9) (v := .int .i64 0) rfl (by kernel_rfl) (by kernel_rfl) (by kernel_rfl) (fun _ _ _ h => h) (Or.inl ⟨by rfl, fun w hSw => by dsimp only at hSw; go_simp⟩) hHeld ?_
  simp only [Act.put, List.setIfInBounds_toArray, List.set_cons_zero, List.set_cons_succ]
  refine wpAnyH_take (i := 10) (v := .pointer (some ⟨ob, 0, none⟩)) rfl (by kernel_rfl) (by kernel_rfl) (by kernel_rfl) (fun _ _ _ h => h) (Or.inl ⟨by rfl, fun w hSw => by dsimp only at hSw; go_simp⟩) hHeld ?_
  simp only [Act.put, List.setIfInBounds_toArray, List.set_cons_zero, List.set_cons_succ]
  refine wpAnyH_take (i := 12) (v := nodeV nm p src self tot) rfl (by kernel_rfl) (by kernel_rfl) (by kernel_rfl) (fun _ _ _ h => h) (Or.inl ⟨by rfl, fun w hSw => by dsimp only at hSw; go_simp⟩) hHeld ?_
  simp only [Act.put, List.setIfInBounds_toArray, List.set_cons_zero, List.set_cons_succ]
  refine wpAnyH_ready (rs := [11, 13]) (by kernel_rfl) (by simp) ?_
  refine AllReadyH.cons rfl (fun K hK => ?_) (AllReadyH.cons rfl (fun K hK => ?_) AllReadyH.nil)
  · go_simp
    refine hK.out _ _ hHeld (fun hHeld => ?_)
    clear hK K
    try simp only [Act.put, List.setIfInBounds_toArray, List.set_cons_zero, List.set_cons_succ]
    refine wpAnyH_ready (rs := [13]) (by kernel_rfl) (by simp) ?_
    refine AllReadyH.cons rfl (fun K hK => ?_) AllReadyH.nil
    go_simp
    refine hK.out _ _ (by go_keep) (fun hHeld => ?_)
    clear hK K
    try simp only [Act.put, List.setIfInBounds_toArray, List.set_cons_zero, List.set_cons_succ]
    refine wpAnyH_ready (rs := [14]) (by kernel_rfl) (by simp) ?_
    refine AllReadyH.cons rfl (fun K hK => ?_) AllReadyH.nil
    refine step_append_fits rfl (.tmp 102) (.tmp 104) 64 rfl base 59 i0 5 Yba.underlying64 hi hz1 (w.heap.size + 1) n (2 * n) xs rfl (ho1.alloc _) ⟨W.heap.size, 0, none⟩ 1 1 (nodeC nm p src self tot) rfl rfl (cells_new5 _ _ _ _ _ _ _ _ rfl) (by simp [Value.oneCell']) (by omega) ?_
    intro w2 hown2 hg2
    obtain ⟨e1, e2, e3⟩ := kept13 (by omega) (by omega) (by omega) hHeld a1 a2 b2 hg2
    refine hK.out _ _ e3 (fun hHeld => ?_)
    clear hK K
    try simp only [Act.put, List.setIfInBounds_toArray, List.set_cons_zero, List.set_cons_succ]
    refine wpAnyH_ready (rs := [15]) (by kernel_rfl) (by simp) ?_
    refine AllReadyH.cons rfl (fun K hK => ?_) AllReadyH.nil
    go_simp
    refine hK.out _ _ hHeld (fun hHeld => ?_)
    clear hK K
    try simp only [Act.put, List.setIfInBounds_toArray, List.set_cons_zero, List.set_cons_succ]
    refine wpAnyH_ready (rs := [16]) (by kernel_rfl) (by simp) ?_
    refine AllReadyH.cons rfl (fun K hK => ?_) AllReadyH.nil
    go_simp
    obtain ⟨hN, hK2, hB2⟩ := nodes13 h.bt h.bo b1 b2 h.d1 (by omega) (by omega) (by omega) (by omega) (by omega) hk1 (.inr (by omega)) hHeld e1 e2 hg2 hown2
    refine hK.out _ _ hB2 (fun _ => ?_)
    clear hK K
    refine wpAnyH_done (by kernel_rfl) ?_ _
    clear hHeld a0 a1 a2 v0 v1 v2 v3 v4
    go_wp2_with (go_at_call 12; refine (len_any hN).mono ?_; rintro e w' ⟨rfl, rfl⟩)
    go_ret
    exact ⟨ret_int (by omega), _, by omega, hN, hK2⟩
  · go_simp
    refine hK.out _ _ (by go_keep) (fun hHeld => ?_)
    clear hK K
    try simp only [Act.put, List.setIfInBounds_toArray, List.set_cons_zero, List.set_cons_succ]
    refine wpAnyH_ready (rs := [11]) (by kernel_rfl) (by simp) ?_
    refine AllReadyH.cons rfl (fun K hK => ?_) AllReadyH.nil
    go_simp
    refine hK.out _ _ hHeld (fun hHeld => ?_)
    clear hK K
    try simp only [Act.put, List.setIfInBounds_toArray, List.set_cons_zero, List.set_cons_succ]
    refine wpAnyH_ready (rs := [14]) (by kernel_rfl) (by simp) ?_
    refine AllReadyH.cons rfl (fun K hK => ?_) AllReadyH.nil
    refine step_append_fits rfl (.tmp 102) (.tmp 104) 64 rfl base 59 i0 5 Yba.underlying64 hi hz1 (w.heap.size + 1) n (2 * n) xs rfl (ho1.alloc _) ⟨W.heap.size, 0, none⟩ 1 1 (nodeC nm p src self tot) rfl rfl (cells_new5 _ _ _ _ _ _ _ _ rfl) (by simp [Value.oneCell']) (by omega) ?_
    intro w2 hown2 hg2
    obtain ⟨e1, e2, e3⟩ := kept13 (by omega) (by omega) (by omega) hHeld a1 a2 b2 hg2
    refine hK.out _ _ e3 (fun hHeld => ?_)
    clear hK K
    try simp only [Act.put, List.setIfInBounds_toArray, List.set_cons_zero, List.set_cons_succ]
    refine wpAnyH_ready (rs := [15]) (by kernel_rfl) (by simp) ?_
    refine AllReadyH.cons rfl (fun K hK => ?_) AllReadyH.nil
    go_simp
    refine hK.out _ _ hHeld (fun hHeld => ?_)
    clear hK K
    try simp only [Act.put, List.setIfInBounds_toArray, List.set_cons_zero, List.set_cons_succ]
    refine wpAnyH_ready (rs := [16]) (by kernel_rfl) (by simp) ?_
    refine AllReadyH.cons rfl (fun K hK => ?_) AllReadyH.nil
    go_simp
    obtain ⟨hN, hK2, hB2⟩ := nodes13 h.bt h.bo b1 b2 h.d1 (by omega) (by omega) (by omega) (by omega) (by omega) hk1 (.inr (by omega)) hHeld e1 e2 hg2 hown2
    refine hK.out _ _ hB2 (fun _ => ?_)
    clear hK K
    refine wpAnyH_done (by kernel_rfl) ?_ _
    clear hHeld a0 a1 a2 v0 v1 v2 v3 v4
    go_wp2_with (go_at_call 12; refine (len_any hN).mono ?_; rintro e w' ⟨rfl, rfl⟩)
    go_ret
    exact ⟨ret_int (by omega), _, by omega, hN, hK2⟩


end Go.Proofs.Ybulkazig
