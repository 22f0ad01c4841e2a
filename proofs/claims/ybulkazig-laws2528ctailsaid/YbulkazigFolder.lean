/-
  Seat b2528a: the contract of newFolder.
-/
import Derived.Test.YbulkazigRowI
import Derived.RegionTactic
import Derived.BigRegion
import Derived.Laws.EntriesVeiled
namespace Go.Proofs.Ybulkazig
open Go.ChangeShapes Go.WideShapes Go.ChangeAt Go.RowKit
set_option linter.unusedVariables false
set_option linter.unusedSimpArgs false

theorem Yba.info81 : (Yba.prog.info? 81).map (fun i => (i.zero, i.size, i.bytes)) = some (some (.agg #[.int .i32 0, .int .i32 0, .bool false]), 3, 12) := by kernel_rfl
theorem Yba.info21 : (Yba.prog.info? 21).map (fun i => (i.zero, i.size, i.bytes)) = some (some (.int .i32 0), 1, 4) := by kernel_rfl

/-- The state of newFolder: the tree stands; first at block q. -/
structure Fold1 (w wr : World) (base tb ob oc gb nc q n : Nat) (E : Nat → Rw) (g : Nat → Int) : Prop where
  tree : Nodes wr base tb ob oc gb (n + 1) nc (nodesC E n)
  fst : RowI wr w.heap.size 21 .i32 q (n + 3) g
  bel : Below w.heap.size w wr
  t1 : tb < w.heap.size
  o1 : ob < w.heap.size
  g1 : gb < w.heap.size

theorem Fold1.q {w wr : World} {base tb ob oc gb nc q n : Nat} {E : Nat → Rw} {g : Nat → Int} (h : Fold1 w wr base tb ob oc gb nc q n E g) : w.heap.size ≤ q := h.fst.lt.1

theorem Fold1.set {w wr : World} {base tb ob oc gb nc q n : Nat} {E : Nat → Rw} {g g' : Nat → Int} (h : Fold1 w wr base tb ob oc gb nc q n E g) (j : Nat) (v : Int) (hg : ∀ t, t < n + 3 → upd g j v t = g' t) :
    Fold1 w (wr.setCell ⟨q, j, none⟩ (.int .i32 v)) base tb ob oc gb nc q n E g' := by
  have hq := h.q
  have a := h.t1
  have b := h.o1
  have c := h.g1
  have hs := h.fst.set j v
  exact ⟨h.tree.kept hs.2 (by simp; omega) (by simp; omega) (by simp; omega), hs.1.congr hg, h.bel.setCell hq _, a, b, c⟩

theorem Fold1.drew {w wr : World} {base tb ob oc gb nc q n : Nat} {E : Nat → Rw} {g : Nat → Int} (h : Fold1 w wr base tb ob oc gb nc q n E g) : Fold1 w wr.drew base tb ob oc gb nc q n E g :=
  ⟨h.tree.drew, h.fst, h.bel.drew, h.t1, h.o1, h.g1⟩
theorem Fold1.drewN {w wr : World} {base tb ob oc gb nc q n : Nat} {E : Nat → Rw} {g : Nat → Int} (h : Fold1 w wr base tb ob oc gb nc q n E g) (k : Nat) : Fold1 w (wr.drewN k) base tb ob oc gb nc q n E g :=
  ⟨h.tree.drewN k, h.fst, below_drewN h.bel k, h.t1, h.o1, h.g1⟩

theorem w32 (x : Int) (h0 : -100000 ≤ x) (h1 : x ≤ 100000) : wrap32 x = x := by unfold wrap32; omega

theorem fs1_bd (f : Nat → Nat) (k j : Nat) : 0 ≤ fs1 f k j ∧ fs1 f k j ≤ k := by
  unfold fs1
  have := cEq_le f k (j - 2)
  split <;> omega
theorem fs2_bd (f : Nat → Nat) (n p j : Nat) : 0 ≤ fs2 f n p j ∧ fs2 f n p j ≤ n := by
  unfold fs2
  have := cEq_le f n (j - 2)
  have := cLt_le f n (j - 1)
  split <;> omega

theorem step1 {w wr : World} {base tb ob oc gb nc q n m : Nat} {E : Nat → Rw} (h : Fold1 w wr base tb ob oc gb nc q n E (fs1 (par E) (m - 1))) (hm : 1 ≤ m) (hmn : m ≤ n + 1) (hn : n ≤ 1024) :
    Fold1 w (wr.setCell ⟨q, par E m + 2, none⟩ (.int .i32 (wrap32 (fs1 (par E) (m - 1) (par E m + 2) + 1)))) base tb ob oc gb nc q n E (fs1 (par E) m) := by
  have hb := fs1_bd (par E) (m - 1) (par E m + 2)
  rw [w32 _ (by omega) (by omega)]
  obtain ⟨k, rfl⟩ : ∃ k, m = k + 1 := ⟨m - 1, by omega⟩
  rw [Nat.add_sub_cancel] at *
  exact h.set _ _ (fun t _ => fs1_step (par E) k t)

theorem step2 {w wr : World} {base tb ob oc gb nc q n r : Nat} {E : Nat → Rw} (h : Fold1 w wr base tb ob oc gb nc q n E (fs2 (par E) n (r + 1))) (hr : 1 ≤ r) (hn : n ≤ 1024) :
    Fold1 w (wr.setCell ⟨q, r + 1, none⟩ (.int .i32 (wrap32 (fs2 (par E) n (r + 1) (r + 1) + fs2 (par E) n (r + 1) r)))) base tb ob oc gb nc q n E (fs2 (par E) n (r + 2)) := by
  have hb := fs2_bd (par E) n (r + 1) (r + 1)
  have hb2 := fs2_bd (par E) n (r + 1) r
  rw [w32 _ (by omega) (by omega)]
  exact h.set _ _ (fun t _ => by have := fs2_step (par E) n (r + 1) t (by omega); rwa [Nat.add_sub_cancel] at this)

/-- The state of newFolder in its third loop: kids at block kq; the nodes ahead of m are placed. -/
structure Fold3 (w wr : World) (base tb ob oc gb nc q kq n : Nat) (E : Nat → Rw) (m : Nat) : Prop where
  fold : Fold1 w wr base tb ob oc gb nc q n E (fs3 (par E) n (m - 1))
  kids : ∃ ks : Nat → Int, RowI wr w.heap.size 21 .i32 kq n ks ∧ ∀ i, 1 ≤ i → i < m → ks (pos (par E) n i) = i
  kne : kq ≠ q
  kb : w.heap.size ≤ kq

theorem start3 {w wr w3 : World} {base tb ob oc gb nc q n : Nat} {E : Nat → Rw} (h : Fold1 w wr base tb ob oc gb nc q n E (fs3 (par E) n 0)) (hown : w3.ownsRow w.heap.size 21 1 (.slice (some ⟨wr.heap.size, 0, none⟩) n n) n (madeCells (Value.int IntKind.i32 0).cells (n * 1)).toList) (hg : wr.grownBy w3 none) :
    Fold3 w w3 base tb ob oc gb nc q wr.heap.size n E 1 := by
  have hq := h.fst.lt
  have hs := h.bel.size
  exact ⟨⟨h.tree.kept hg (by simp) (by simp) (by simp), h.fst.kept hg (by simp), h.bel.grown hg hs (by simp), h.t1, h.o1, h.g1⟩, ⟨_, row_made hown, fun i a b => by omega⟩, by omega, hs⟩

theorem step3 {w wr : World} {base tb ob oc gb nc q kq n m : Nat} {E : Nat → Rw} (h : Fold3 w wr base tb ob oc gb nc q kq n E m) (hm : 1 ≤ m) (hmn : m ≤ n) (hn : n ≤ 1024) :
    (∃ v, wr.cell? ⟨kq, pos (par E) n m, none⟩ = some v) ∧ wr.frozen? ⟨kq, pos (par E) n m, none⟩ = false ∧
    wr.cell? ⟨q, par E m + 1, none⟩ = some (.int .i32 (pos (par E) n m)) ∧
    (wr.setCell ⟨kq, pos (par E) n m, none⟩ (.int .i32 m)).cell? ⟨q, par E m + 1, none⟩ = some (.int .i32 (pos (par E) n m)) ∧
    (wr.setCell ⟨kq, pos (par E) n m, none⟩ (.int .i32 m)).frozen? ⟨q, par E m + 1, none⟩ = false ∧
    Fold3 w ((wr.setCell ⟨kq, pos (par E) n m, none⟩ (.int .i32 m)).setCell ⟨q, par E m + 1, none⟩ (.int .i32 (pos (par E) n m + 1))) base tb ob oc gb nc q kq n E (m + 1) := by
  obtain ⟨ks, hks, hall⟩ := h.kids
  have hp := pos_lt (par E) hm hmn
  have hpl := par_lt E m hm
  obtain ⟨k, rfl⟩ : ∃ k, m = k + 1 := ⟨m - 1, by omega⟩
  have hf := h.fold
  rw [Nat.add_sub_cancel] at hf
  have hc := hf.fst.cell (par E (k + 1) + 1) (by omega)
  rw [fs3_at] at hc
  have hne := h.kne
  have hc2 : (wr.setCell ⟨kq, pos (par E) n (k + 1), none⟩ (.int .i32 ((k + 1 : Nat) : Int))).cell? ⟨q, par E (k + 1) + 1, none⟩ = some (.int .i32 (pos (par E) n (k + 1))) := by
    rw [World.cell?_setCell_other _ _ _ _ (fun e => hne (by simpa using (congrArg Addr.block e)))]; exact hc
  refine ⟨⟨_, hks.cell _ hp⟩, hks.frozen _, hc, hc2, (World.frozen?_setCell _ _ _ _).trans (hf.fst.frozen _), ?_⟩
  have hs1 := hks.set (pos (par E) n (k + 1)) ((k + 1 : Nat) : Int)
  have a := hf.t1
  have b := hf.o1
  have c := hf.g1
  have kb := h.kb
  have hF' : Fold1 w (wr.setCell ⟨kq, pos (par E) n (k + 1), none⟩ (.int .i32 ((k + 1 : Nat) : Int))) base tb ob oc gb nc q n E (fs3 (par E) n k) :=
    ⟨hf.tree.kept hs1.2 (by simp; omega) (by simp; omega) (by simp; omega), hf.fst.kept hs1.2 (by simpa using Ne.symm hne), hf.bel.setCell kb _, a, b, c⟩
  refine ⟨?_, ⟨upd ks (pos (par E) n (k + 1)) ((k + 1 : Nat) : Int), hs1.1.kept (grownBy_setCell _ _ _) (by simpa using hne), fun i h1 h2 => ?_⟩, hne, kb⟩
  · rw [Nat.add_sub_cancel]
    refine hF'.set _ _ (fun t _ => ?_)
    have := fs3_step (par E) n k t
    rw [fs3_at] at this
    exact this
  · unfold upd
    by_cases e : i = k + 1
    · subst e; rw [if_pos rfl]
    · rw [if_neg (pos_ne (par E) h1 (by omega) hmn)]
      exact hall i h1 (by omega)

theorem items_step (E : Nat → Rw) (n m : Nat) (h : 1 ≤ m) : items (par E) (fun t => (E t).2) n m = items (par E) (fun t => (E t).2) n (m - 1) + (if 0 < (E (m - 1)).2 then 1 else 0) + (if 0 < cEq (par E) n m then 1 else 0) := by
  obtain ⟨k, rfl⟩ : ∃ k, m = k + 1 := ⟨m - 1, by omega⟩
  rw [Nat.add_sub_cancel, items]

theorem make_items (w : World) (m : Nat) (hm : m ≤ 100000) : (Instr.makeSlice 32 (.int .i64 0) (.int .i64 (m : Int))).run Yba.prog w = .ok (.slice (some ⟨w.heap.size, 0, none⟩) 0 m) (w.alloc (.cells (madeCells #[.int .i32 0, .int .i32 0, .bool false] (m * 3)) 81)) := by
  obtain ⟨i0, hi, hz0, hz1, hz2⟩ := info_parts Yba.info81
  have h := run_make (P := Yba.prog) w 32 81 i0 _ Yba.underlying32 hi hz0 .i64 .i64 0 (m : Int) (by omega) (by omega) (by rw [hz2]; omega) (by omega)
  have h2 : (Value.agg #[Value.int IntKind.i32 0, Value.int IntKind.i32 0, Value.bool false]).cells = #[.int .i32 0, .int .i32 0, .bool false] := rfl
  rw [hz1, h2] at h
  simpa using h

/-- What newFolder hands back: a new folder at block fb. -/
structure Folder (w w' : World) (tb fb n : Nat) (tv : Value) (E : Nat → Rw) : Prop where
  c0 : w'.cell? ⟨fb, 0, none⟩ = some (.pointer (some ⟨tb, 0, none⟩))
  c1 : w'.cell? ⟨fb, 1, none⟩ = some tv
  c2 : w'.cell? ⟨fb, 2, none⟩ = some .nilFunc
  rows : ∃ (q kq isb : Nat) (ks : Nat → Int), w'.cell? ⟨fb, 3, none⟩ = some (.slice (some ⟨q, 0, none⟩) (n + 2) (n + 3)) ∧ w'.cell? ⟨fb, 4, none⟩ = some (.slice (some ⟨kq, 0, none⟩) n n) ∧
    w'.cell? ⟨fb, 5, none⟩ = some (.slice (some ⟨isb, 0, none⟩) 0 (items (par E) (fun t => (E t).2) n n)) ∧ RowI w' w.heap.size 21 .i32 q (n + 3) (fun j => (cLt (par E) n j : Int)) ∧ RowI w' w.heap.size 21 .i32 kq n ks ∧ ∀ i, 1 ≤ i → i ≤ n → ks (pos (par E) n i) = i
  bel : Below w.heap.size w w'
  fl : w.heap.size ≤ fb

theorem folder_end {w wz : World} {tb q kq n it : Nat} {E : Nat → Rw} {ks : Nat → Int} (tv : Value) (hF : RowI wz w.heap.size 21 .i32 q (n + 3) (fun j => (cLt (par E) n j : Int))) (hks : RowI wz w.heap.size 21 .i32 kq n ks) (hall : ∀ i, 1 ≤ i → i < n + 1 → ks (pos (par E) n i) = i) (hb : Below w.heap.size w wz)
    (hit : items (par E) (fun t => (E t).2) n n = it) (x : Nat) (C : Array Value) :
    Folder w (((wz.drewN x).alloc (Obj.cells C 81)).alloc (Obj.cells #[.pointer (some ⟨tb, 0, none⟩), tv, .nilFunc, .slice (some ⟨q, 0, none⟩) (n + 1 + 1) (n + 3), .slice (some ⟨kq, 0, none⟩) n n, .slice (some ⟨wz.heap.size, 0, none⟩) 0 it, .pointer none, .slice none 0 0, .slice none 0 0, .slice none 0 0] 37)) tb (wz.heap.size + 1) n tv E := by
  subst hit
  have hnew : (((wz.drewN x).alloc (Obj.cells C 81)).alloc (Obj.cells #[.pointer (some ⟨tb, 0, none⟩), tv, .nilFunc, .slice (some ⟨q, 0, none⟩) (n + 1 + 1) (n + 3), .slice (some ⟨kq, 0, none⟩) n n, .slice (some ⟨wz.heap.size, 0, none⟩) 0 (items (par E) (fun t => (E t).2) n n), .pointer none, .slice none 0 0, .slice none 0 0, .slice none 0 0] 37)).heap[wz.heap.size + 1]? = some (Obj.cells #[.pointer (some ⟨tb, 0, none⟩), tv, .nilFunc, .slice (some ⟨q, 0, none⟩) (n + 1 + 1) (n + 3), .slice (some ⟨kq, 0, none⟩) n n, .slice (some ⟨wz.heap.size, 0, none⟩) 0 (items (par E) (fun t => (E t).2) n n), .pointer none, .slice none 0 0, .slice none 0 0, .slice none 0 0] 37) := by
    have := heap_alloc_new ((wz.drewN x).alloc (Obj.cells C 81)) (Obj.cells #[.pointer (some ⟨tb, 0, none⟩), tv, .nilFunc, .slice (some ⟨q, 0, none⟩) (n + 1 + 1) (n + 3), .slice (some ⟨kq, 0, none⟩) n n, .slice (some ⟨wz.heap.size, 0, none⟩) 0 (items (par E) (fun t => (E t).2) n n), .pointer none, .slice none 0 0, .slice none 0 0, .slice none 0 0] 37)
    have e : ((wz.drewN x).alloc (Obj.cells C 81)).heap.size = wz.heap.size + 1 := by go_simp
    rw [e] at this
    exact this
  have hg1 : (wz.drewN x).grownBy ((wz.drewN x).alloc (Obj.cells C 81)) none := World.grownBy_alloc _ _ none
  have hs := hb.size
  have hcc := fun j => cell_of_row _ _ j _ _ _ hnew
  refine ⟨(hcc 0).trans rfl, (hcc 1).trans rfl, (hcc 2).trans rfl, ⟨q, kq, wz.heap.size, ks, (hcc 3).trans rfl, (hcc 4).trans rfl, (hcc 5).trans rfl, ((hF.drewN x).kept hg1 (by simp)).kept (World.grownBy_alloc _ _ none) (by simp), ((hks.drewN x).kept hg1 (by simp)).kept (World.grownBy_alloc _ _ none) (by simp), fun i a b => hall i a (by omega)⟩, ?_, by omega⟩
  exact (((below_drewN hb x).alloc hs _).alloc (by simp; omega) _)

set_option maxHeartbeats 2000000 in
theorem folder_any {w : World} {base tb ob oc gb nc n : Nat} {E : Nat → Rw} (hN : Nodes w base tb ob oc gb (n + 1) nc (nodesC E n)) (hn : n ≤ 1024) (tv : Value) (htv : tv = .nilFunc ∨ ∃ x y z, tv = .func x y z) :
    Calls Yba.prog 6 #[.pointer (some ⟨tb, 0, none⟩), tv] w fun e w' => ∃ fb, e = .returned (.pointer (some ⟨fb, 0, none⟩)) ∧ Folder w w' tb fb n tv E := by
  obtain ⟨i0, hi, hz0, hz1, hz2⟩ := info_parts Yba.info21
  have hbytes : i0.bytes * (n + 3) ≤ 281474976710656 := by rw [hz2]; omega
  have hmax : n + 3 ≤ maxLen := by unfold maxLen; omega
  have hbytes1 : i0.bytes * n ≤ 281474976710656 := by rw [hz2]; omega
  have hmax1 : n ≤ maxLen := by unfold maxLen; omega
  go_enter Yba.func6, Yba.ntmps6
  go_upto_region 3 with (first | (go_at_call 10; refine (Len_any hN).mono ?_; rintro e w' ⟨rfl, rfl⟩) | (at_make; refine wpList_make_full _ rfl (.tmp 17) (.tmp 17) 31 rfl w.heap.size 21 i0 _ 1 Yba.underlying31 hi hz0 hz1 _ _ _ _ (n + 3) rfl rfl (by omega) (by omega) hbytes hmax (Nat.le_refl _) ?_; intro w1 hown1 hg1))
  have hF : Fold1 w w1 base tb ob oc gb nc w.heap.size n E (fs1 (par E) 0) :=
    ⟨hN.kept hg1 (by simp) (by simp) (by simp), (row_made hown1).congr (fun j _ => by unfold fs1; split <;> rfl), (Below.refl _ _).grown hg1 (Nat.le_refl _) (by simp), hN.lt, hN.lo, hN.bg.2⟩
  clear hown1 hg1 hN
  go_wp2
  go_loopw [7] (fun i wr => ∃ m : Nat, 1 ≤ m ∧ m ≤ n + 1 ∧ i = .int .i64 m ∧ Fold1 w wr base tb ob oc gb nc w.heap.size n E (fs1 (par E) (m - 1))) (fun i _ => n + 1 - (intOf i).toNat)
  case atStart => exact ⟨1, Nat.le_refl _, by omega, rfl, hF⟩
  case round =>
    obtain ⟨m, hm1, hm2, rfl, hFm⟩ := hrel
    clear hF
    by_cases hlt : m < n + 1
    · have hnd := (hFm.tree.node m hm1 (by omega)).1
      have hpl := par_lt E m hm1
      have hat := at_any hFm.tree m hlt
      have hcl := hFm.fst.cell (par E m + 2) (by omega)
      have hfr := hFm.fst.frozen (par E m + 2)
      have hlt' : (m : Int) < (n : Int) + 1 := by omega
      have hst := step1 hFm hm1 hm2 hn
      generalize fs1 (par E) (m - 1) (par E m + 2) = gv at *
      generalize par E m = pm at *
      have HAT := Hid.mk hat
      clear hat
      go_wp2_with (go_at_call 11; refine HAT.out.mono ?_; rintro e w' ⟨rfl, rfl⟩)
      go_roundw
      case rel => exact ⟨m + 1, by omega, by omega, by go_num, hst⟩
      case measure => simp [intOf]; omega
    · obtain rfl : m = n + 1 := by omega
      rw [Nat.add_sub_cancel] at hFm
      have hF2 : Fold1 w wr base tb ob oc gb nc w.heap.size n E (fs2 (par E) n 2) := ⟨hFm.tree, hFm.fst.congr (fun j _ => fs2_start (par E) n j), hFm.bel, hFm.t1, hFm.o1, hFm.g1⟩
      clear hFm
      go_wp2
      generalize wr = wx at *
      go_loopw [8] (fun i wr => ∃ r : Nat, 1 ≤ r ∧ r ≤ n + 2 ∧ i = .int .i64 (r + 1) ∧ Fold1 w wr base tb ob oc gb nc w.heap.size n E (fs2 (par E) n (r + 1))) (fun i _ => n + 3 - (intOf i).toNat)
      case atStart => exact ⟨1, Nat.le_refl _, by omega, rfl, hF2⟩
      case round =>
        obtain ⟨r, hr1, hr2, rfl, hFr⟩ := hrel
        clear hF2
        by_cases hlt : r + 1 < n + 3
        · have hst := step2 hFr hr1 hn
          have hc1 := hFr.fst.cell (r + 1) hlt
          have hc0 := hFr.fst.cell r (by omega)
          have hfr := hFr.fst.frozen (r + 1)
          have hlt' : (r : Int) + 1 < (n : Int) + 3 := by omega
          have hlt0 : (r : Int) < (n : Int) + 3 := by omega
          generalize fs2 (par E) n (r + 1) (r + 1) = gv at *
          generalize fs2 (par E) n (r + 1) r = gu at *
          go_wp2
          go_region
          go_wp2
          go_roundw
          case rel => exact ⟨r + 1, by omega, by omega, by go_num, hst.drew⟩
          case measure => simp [intOf]; omega
        · obtain rfl : r = n + 2 := by omega
          have hF3 : Fold1 w wr base tb ob oc gb nc w.heap.size n E (fs3 (par E) n 0) := ⟨hFr.tree, hFr.fst.congr (fun j hj => fs3_start (par E) n j _ hj), hFr.bel, hFr.t1, hFr.o1, hFr.g1⟩
          clear hFr
          have hbw : w.heap.size ≤ wr.heap.size := hF3.bel.size
          go_upto_region 12 with (at_make; refine wpList_make_full _ rfl (.tmp 57) (.tmp 57) 31 rfl w.heap.size 21 i0 _ 1 Yba.underlying31 hi hz0 hz1 _ _ _ _ n rfl rfl (by omega) (by omega) hbytes1 hmax1 hbw ?_; intro w3 hown3 hg3)
          have hF := start3 hF3 hown3 hg3
          clear hF3 hown3 hg3
          go_wp2
          generalize wr.heap.size = kq at *
          go_loopw [10, 11] (fun i _ wr => ∃ m : Nat, 1 ≤ m ∧ m ≤ n + 1 ∧ i = .int .i64 m ∧ Fold3 w wr base tb ob oc gb nc w.heap.size kq n E m) (fun i _ _ => n + 1 - (intOf i).toNat)
          case atStart => exact ⟨1, Nat.le_refl _, by omega, rfl, hF⟩
          case round =>
            obtain ⟨m, hm1, hm2, rfl, hFm⟩ := hrel
            clear hF
            by_cases hlt : m < n + 1
            · have hnd := (hFm.fold.tree.node m hm1 (by omega)).1
              have hpl := par_lt E m hm1
              have hps := pos_lt (par E) hm1 (show m ≤ n by omega)
              have hat := at_any hFm.fold.tree m hlt
              obtain ⟨⟨kv, s0⟩, s1, s2, s3, s4, hst⟩ := step3 hFm hm1 (by omega) hn
              have hlt' : (m : Int) < (n : Int) + 1 := by omega
              generalize pos (par E) n m = ps at *
              generalize par E m = pm at *
              have hps' : (ps : Int) < (n : Int) := by omega
              have HAT := Hid.mk hat
              clear hat
              go_wp2_with (go_at_call 11; refine HAT.out.mono ?_; rintro e w' ⟨rfl, rfl⟩)
              go_roundw
              case rel => exact ⟨m + 1, by omega, by omega, by go_num, hst⟩
              case measure => simp [intOf]; omega
            · obtain rfl : m = n + 1 := by omega
              have hT := hFm.fold.tree
              have hFst : RowI wr w.heap.size 21 .i32 w.heap.size (n + 3) (fun j => (cLt (par E) n j : Int)) := hFm.fold.fst.congr (fun j _ => by rw [Nat.add_sub_cancel]; exact fs3_end (par E) n j)
              obtain ⟨ks, hks, hall⟩ := hFm.kids
              have hbel := hFm.fold.bel
              clear hFm
              go_wp2
              generalize wr = wz at *
              go_loopw [12, 13] (fun c i wr => ∃ m : Nat, 1 ≤ m ∧ m ≤ n + 1 ∧ i = .int .i64 m ∧ c = .int .i64 (items (par E) (fun t => (E t).2) n (m - 1) : Nat) ∧ ∃ d, wr = wz.drewN d) (fun _ i _ => n + 1 - (intOf i).toNat)
              case atStart => exact ⟨1, Nat.le_refl _, by omega, rfl, rfl, 0, rfl⟩
              case round =>
                obtain ⟨m, hm1, hm2, rfl, rfl, d, rfl⟩ := hrel
                by_cases hlt : m < n + 1
                · have hnd := (hT.node m hm1 (by omega)).2
                  have hat := fun x => at_any (hT.drewN x) m hlt
                  have hc0 := hFst.cell m (by omega)
                  have hc1 := hFst.cell (m + 1) (by omega)
                  have hil := items_le (par E) (fun t => (E t).2) n (m - 1)
                  have his := items_step E n m hm1
                  have hch := fs_child (par E) n m
                  have hlt' : (m : Int) < (n : Int) + 1 := by omega
                  have hlt1 : (m : Int) + 1 < (n : Int) + 3 := by omega
                  have hlt0 : (m : Int) < (n : Int) + 3 := by omega
                  generalize items (par E) (fun t => (E t).2) n (m - 1) = it at *
                  generalize (cLt (par E) n (m + 1) : Int) = y1 at *
                  generalize (cLt (par E) n m : Int) = y0 at *
                  have HAT := Hid.mk hat
                  have HIS := Hid.mk his
                  have HCH := Hid.mk hch
                  clear hat his hch
                  by_cases hs : 0 < (E (m - 1)).2
                  · by_cases hc : y0 < y1
                    · have HC : Hid (items (par E) (fun t => (E t).2) n m = it + 2) := by
                        have h := HIS.out
                        rw [if_pos hs, if_pos (HCH.out.1 hc)] at h
                        exact h
                      generalize (E (m - 1)).2 = sv at *
                      go_wp2_with (go_at_call 11; refine (HAT.out _).mono ?_; rintro e w' ⟨rfl, rfl⟩)
                      go_quiet (fail)
                      go_wp2
                      go_roundw
                      case rel => first | exact ⟨m + 1, by omega, by omega, by go_num, by rw [Nat.add_sub_cancel, HC.out]; go_num, _, rfl⟩ | ((repeat apply Exists.intro); exact ⟨⟨m + 1, by omega, by omega, by go_num, by rw [Nat.add_sub_cancel, HC.out]; go_num, _, rfl⟩, rfl⟩)
                      case measure => simp [intOf]; omega
                    · have HC : Hid (items (par E) (fun t => (E t).2) n m = it + 1) := by
                        have h := HIS.out
                        rw [if_pos hs, if_neg (fun x => hc (HCH.out.2 x))] at h
                        exact h
                      generalize (E (m - 1)).2 = sv at *
                      go_wp2_with (go_at_call 11; refine (HAT.out _).mono ?_; rintro e w' ⟨rfl, rfl⟩)
                      go_quiet (fail)
                      go_wp2
                      go_roundw
                      case rel => first | exact ⟨m + 1, by omega, by omega, by go_num, by rw [Nat.add_sub_cancel, HC.out]; go_num, _, rfl⟩ | ((repeat apply Exists.intro); exact ⟨⟨m + 1, by omega, by omega, by go_num, by rw [Nat.add_sub_cancel, HC.out]; go_num, _, rfl⟩, rfl⟩)
                      case measure => simp [intOf]; omega
                  · by_cases hc : y0 < y1
                    · have HC : Hid (items (par E) (fun t => (E t).2) n m = it + 1) := by
                        have h := HIS.out
                        rw [if_neg hs, if_pos (HCH.out.1 hc)] at h
                        exact h
                      generalize (E (m - 1)).2 = sv at *
                      go_wp2_with (go_at_call 11; refine (HAT.out _).mono ?_; rintro e w' ⟨rfl, rfl⟩)
                      go_quiet (fail)
                      go_wp2
                      go_roundw
                      case rel => first | exact ⟨m + 1, by omega, by omega, by go_num, by rw [Nat.add_sub_cancel, HC.out]; go_num, _, rfl⟩ | ((repeat apply Exists.intro); exact ⟨⟨m + 1, by omega, by omega, by go_num, by rw [Nat.add_sub_cancel, HC.out]; go_num, _, rfl⟩, rfl⟩)
                      case measure => simp [intOf]; omega
                    · have HC : Hid (items (par E) (fun t => (E t).2) n m = it + 0) := by
                        have h := HIS.out
                        rw [if_neg hs, if_neg (fun x => hc (HCH.out.2 x))] at h
                        exact h
                      generalize (E (m - 1)).2 = sv at *
                      go_wp2_with (go_at_call 11; refine (HAT.out _).mono ?_; rintro e w' ⟨rfl, rfl⟩)
                      go_quiet (fail)
                      go_wp2
                      go_roundw
                      case rel => first | exact ⟨m + 1, by omega, by omega, by go_num, by rw [Nat.add_sub_cancel, HC.out]; go_num, _, rfl⟩ | ((repeat apply Exists.intro); exact ⟨⟨m + 1, by omega, by omega, by go_num, by rw [Nat.add_sub_cancel, HC.out]; go_num, _, rfl⟩, rfl⟩)
                      case measure => simp [intOf]; omega
                · obtain rfl : m = n + 1 := by omega
                  rw [Nat.add_sub_cancel]
                  have hil := items_le (par E) (fun t => (E t).2) n n
                  generalize hit : items (par E) (fun t => (E t).2) n n = it at *
                  have hmk := fun wx => make_items wx it (by omega)
                  go_wp2
                  have HI := Hid.mk hit
                  clear hit
                  rcases htv with rfl | ⟨fx, fy, fz, rfl⟩
                  · go_region
                    go_wp2
                    go_ret
                    exact ⟨_, rfl, folder_end _ hFst hks hall hbel HI.out _ _⟩
                  · go_region
                    go_wp2
                    go_ret
                    exact ⟨_, rfl, folder_end _ hFst hks hall hbel HI.out _ _⟩

end Go.Proofs.Ybulkazig
