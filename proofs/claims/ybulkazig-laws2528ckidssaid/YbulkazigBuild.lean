/-
  Seat b2528a: NewTree and zzs2528cbuild.
-/
import Derived.Test.YbulkazigGrow
import Derived.Test.YbulkazigFirst
import Derived.Deep.RegionWith
import Derived.Deep.Cut
namespace Go.Proofs.Ybulkazig
open Go.ChangeShapes Go.WideShapes Go.ChangeAt Go.RowKit
set_option linter.unusedVariables false
set_option linter.unusedSimpArgs false

theorem add_any {w : World} {base tb ob oc gb n nc : Nat} {xs : List Value} (h : Nodes w base tb ob oc gb n nc xs) (hx1 : ∀ v ∈ xs, v.oneCell' = true) (hn : n ≤ 2048) (h2 : nc ≤ 2 * n) (nm : ByteArray) (p src self tot : Int) :
    Calls Yba.prog 9 #[.pointer (some ⟨tb, 0, none⟩), nodeV nm p src self tot] w fun e w' => e = .returned (.int .i64 n) ∧ ∃ gb' nc', Nodes w' base tb ob oc gb' (n + 1) nc' (xs ++ nodeC nm p src self tot) ∧ Kept2 w w' ob gb ∧ (gb' = gb ∨ w.heap.size ≤ gb') ∧ nc' ≤ 2 * (n + 1) := by
  by_cases hr : n < nc
  · exact (add_room h hr nm p src self tot).mono fun e w' ⟨he, hN, hK⟩ => ⟨he, gb, nc, hN, hK, .inl rfl, by omega⟩
  · have e : nc = n := by have := h.n2; omega
    subst e
    exact (add_full h hx1 hn nm p src self tot).mono fun e w' ⟨he, gb', hg, hN, hK⟩ => ⟨he, gb', _, hN, hK, .inr hg, by omega⟩

theorem newTree_any (w : World) :
    Calls Yba.prog 8 #[] w fun e w' => e = .returned (.pointer (some ⟨w.heap.size, 0, none⟩)) ∧ ∃ ob oc gb, Nodes w' w.heap.size w.heap.size ob oc gb 1 1 (nodeC ⟨#[]⟩ (-1) 0 0 0) ∧ Below w.heap.size w w' := by
  go_enter Yba.func8, Yba.ntmps8
  go_wp2_with (go_at_call 9; refine (add_first (base := w.heap.size) (by go_simp) (by go_simp) (Nat.le_refl _) (by simp) _ _ _ _ _).mono ?_; rintro e w' ⟨rfl, ob, oc, gb, hN, hK⟩)
  go_ret
  refine ⟨rfl, ob, oc, gb, hN, hK.os, hK.tape, hK.output, ?_, fun k hk => ?_⟩
  · have := hK.size; simp at this; omega
  · exact (hK.block k (by simp; omega) (by omega) (by omega)).trans (Below.heap_alloc w _ k hk)

/-! ### What build makes, in plain words -/

/-- A drawn node: Parent, Self. -/
abbrev Rw := Int × Int
def RwAt (w : World) (b off : Nat) (x : Rw) : Prop := w.cell? ⟨b, off, none⟩ = some (.int .u16 x.1) ∧ w.cell? ⟨b, off + 1, none⟩ = some (.int .i64 x.2)
def RwOk (x : Rw) : Prop := 0 ≤ x.1 ∧ x.1 ≤ 65535

/-- The parent of node j (from 1 on). -/
def par (E : Nat → Rw) (j : Nat) : Nat := (E (j - 1)).1.toNat % j
theorem par_lt (E : Nat → Rw) (j : Nat) (h : 1 ≤ j) : par E j < j := Nat.mod_lt _ (by omega)

/-- The slice par behind k rounds. -/
def parV (E : Nat → Rw) (k j : Nat) : Int := if j = 0 then -1 else if j ≤ k then (par E j : Int) else 0
def parCells (E : Nat → Rw) (n k : Nat) : List Value := (List.range (n + 1)).map fun j => Value.int .i64 (parV E k j)

/-- The tree's nodes behind k rounds. -/
def nodesC (E : Nat → Rw) : Nat → List Value
  | 0 => nodeC ⟨#[]⟩ (-1) 0 0 0
  | k + 1 => nodesC E k ++ nodeC ⟨#[102]⟩ (par E (k + 1)) 0 (E k).2 0

theorem nodesC_one (E : Nat → Rw) : ∀ k, ∀ v ∈ nodesC E k, v.oneCell' = true
  | 0, v, hv => by simp [nodesC] at hv; rcases hv with rfl | rfl | rfl | rfl | rfl <;> rfl
  | k + 1, v, hv => by
    rw [nodesC, List.mem_append] at hv
    rcases hv with hv | hv
    · exact nodesC_one E k v hv
    · simp at hv; rcases hv with rfl | rfl | rfl | rfl | rfl <;> rfl

theorem parCells_set (E : Nat → Rw) (n k : Nat) (hk : k < n) : (parCells E n k).set (k + 1) (.int .i64 (par E (k + 1))) = parCells E n (k + 1) := by
  apply List.ext_getElem?
  intro j
  rw [List.getElem?_set]
  unfold parCells
  by_cases h : k + 1 = j
  · subst h
    simp [hk, parV]
  · rw [if_neg h]
    by_cases hj : j < n + 1
    · simp only [List.getElem?_map, List.getElem?_range hj, Option.map_some]
      congr 2
      unfold parV
      by_cases h0 : j = 0
      · simp [h0]
      · rw [if_neg h0, if_neg h0]
        by_cases h1 : j ≤ k
        · rw [if_pos h1, if_pos (by omega)]
        · rw [if_neg h1, if_neg (by omega)]
    · simp [hj]

theorem parCells_zero (E : Nat → Rw) (n : Nat) : (List.replicate (n + 1) (Value.int .i64 0)).set 0 (.int .i64 (-1)) = parCells E n 0 := by
  apply List.ext_getElem?
  intro j
  rw [List.getElem?_set]
  unfold parCells
  by_cases h : 0 = j
  · subst h
    simp [parV]
  · rw [if_neg h]
    by_cases hj : j < n + 1
    · simp only [List.getElem?_map, List.getElem?_range hj, Option.map_some, List.getElem?_replicate, if_pos hj]
      congr 2
      unfold parV
      rw [if_neg (by omega), if_neg (by omega)]
    · simp [hj]

/-- A list of nodes stands where another block is written. -/
theorem Nodes.kept {w w' : World} {base tb ob oc gb n nc : Nat} {xs : List Value} (h : Nodes w base tb ob oc gb n nc xs) {r : Option Nat} (hg : w.grownBy w' r) (h1 : some tb ≠ r) (h2 : some ob ≠ r) (h3 : some gb ≠ r) : Nodes w' base tb ob oc gb n nc xs := {
  c0 := hg.cell h.c0 h1
  c1 := hg.cell h.c1 h2
  f1 := (World.frozen?_of_block (a := ⟨ob, 0, none⟩) (hg.block ob h.lo h2)).trans h.f1
  own := h.own.kept hg (.inr h3)
  bt := h.bt
  bo := h.bo
  lt := Nat.lt_of_lt_of_le h.lt hg.size
  lo := Nat.lt_of_lt_of_le h.lo hg.size
  d1 := h.d1
  d2 := h.d2
  d3 := h.d3
  n1 := h.n1
  n2 := h.n2
  n3 := h.n3 }

/-- The state of build behind k rounds: the tree at block tb, the slice par at block q. -/
structure Built (w wr : World) (tb q n k : Nat) (E : Nat → Rw) : Prop where
  tree : ∃ ob oc gb nc, Nodes wr w.heap.size tb ob oc gb (k + 1) nc (nodesC E k) ∧ nc ≤ 2 * (k + 1) ∧ q ≠ ob ∧ q ≠ gb
  pars : wr.ownsRow w.heap.size 3 1 (.slice (some ⟨q, 0, none⟩) (n + 1) (n + 1)) (n + 1) (parCells E n k)
  qt : q ≠ tb
  bel : Below w.heap.size w wr

theorem Yba.info3 : (Yba.prog.info? 3).map (fun i => (i.zero, i.size, i.bytes)) = some (some (.int .i64 0), 1, 8) := by kernel_rfl

theorem built_start {w w1 w2 : World} {ob oc gb n : Nat} (E : Nat → Rw) (hN : Nodes w1 w.heap.size w.heap.size ob oc gb 1 1 (nodeC ⟨#[]⟩ (-1) 0 0 0)) (hb1 : Below w.heap.size w w1)
    (hown : w2.ownsRow w.heap.size 3 1 (.slice (some ⟨w1.heap.size, 0, none⟩) (n + 1) (n + 1)) (n + 1) (madeCells (Value.int IntKind.i64 0).cells ((n + 1) * 1)).toList) (hg : w1.grownBy w2 none) :
    w2.cell? ⟨w1.heap.size, 0, none⟩ = some (.int .i64 0) ∧ w2.frozen? ⟨w1.heap.size, 0, none⟩ = false ∧ Built w (w2.setCell ⟨w1.heap.size, 0, none⟩ (.int .i64 (-1))) w.heap.size w1.heap.size n 0 E := by
  have e : (madeCells (Value.int IntKind.i64 0).cells ((n + 1) * 1)).toList = List.replicate (n + 1) (Value.int .i64 0) := by
    rw [Nat.mul_one]
    exact toList_madeCells_one _ _
  rw [e] at hown
  have hN2 := hN.kept hg (by simp) (by simp) (by simp)
  have hgl := hN.bg.2
  have hlt := hN.lt
  have hlo := hN.lo
  have hst := hown.stored 0 (.int .i64 (-1))
  rw [parCells_zero E n] at hst
  refine ⟨by rw [hown.cellAt 0 (by omega)]; simp, hown.frozenAt 0, ⟨⟨ob, oc, gb, 1, hN2.kept hst.2 (by simp; omega) (by simp; omega) (by simp; omega), by omega, by omega, by omega⟩, hst.1, by omega, ?_⟩⟩
  exact (hb1.grown hg hb1.size (by simp)).setCell hb1.size _

theorem built_step {w wr : World} {tb q n k : Nat} {E : Nat → Rw} (h : Built w wr tb q n k E) (hn : n ≤ 1024) (hk : k < n) (hok : RwOk (E k)) :
    (∃ v, wr.cell? ⟨q, k + 1, none⟩ = some v) ∧ wr.frozen? ⟨q, k + 1, none⟩ = false ∧
    Calls Yba.prog 9 #[.pointer (some ⟨tb, 0, none⟩), nodeV ⟨#[102]⟩ ((E k).1 % ((k : Int) + 1)) 0 (E k).2 0] (wr.setCell ⟨q, k + 1, none⟩ (.int .i64 ((E k).1 % ((k : Int) + 1)))).drew fun e w' => e = .returned (.int .i64 ((k + 1 : Nat) : Int)) ∧ Built w w' tb q n (k + 1) E := by
  obtain ⟨ob, oc, gb, nc, hN, h2, q1, q2⟩ := h.tree
  have hst := h.pars.stored (k + 1) (.int .i64 (par E (k + 1)))
  rw [parCells_set E n k hk] at hst
  have epar : (E k).1 % ((k : Int) + 1) = (par E (k + 1) : Int) := by
    unfold par
    rw [Nat.add_sub_cancel, Int.natCast_emod]
    have := hok.1
    have e1 : (((E k).1.toNat : Nat) : Int) = (E k).1 := by omega
    rw [e1]
    simp
  refine ⟨⟨_, by rw [h.pars.cellAt (k + 1) (by omega)]; exact List.getElem?_eq_getElem (by simp [parCells]; omega)⟩, h.pars.frozenAt _, ?_⟩
  rw [epar]
  have qt := h.qt
  have hN' : Nodes (wr.setCell ⟨q, k + 1, none⟩ (.int .i64 (par E (k + 1)))).drew w.heap.size tb ob oc gb (k + 1) nc (nodesC E k) := by
    have := hN.kept hst.2 (by simp; omega) (by simp; omega) (by simp; omega)
    exact ⟨this.c0, this.c1, this.f1, this.own, this.bt, this.bo, this.lt, this.lo, this.d1, this.d2, this.d3, this.n1, this.n2, this.n3⟩
  have hqlt : q < (wr.setCell ⟨q, k + 1, none⟩ (.int .i64 (par E (k + 1)))).heap.size := (hst.1.lt q rfl).2
  refine (add_any hN' (nodesC_one E k) (by omega) h2 ⟨#[102]⟩ (par E (k + 1)) 0 (E k).2 0).mono ?_
  rintro e w' ⟨he, gb', nc', hN2, hK, hgb, hnc⟩
  have hq' : q ≠ gb' := by
    rcases hgb with rfl | hgb
    · exact q2
    · have : (wr.setCell ⟨q, k + 1, none⟩ (.int .i64 (par E (k + 1)))).heap.size ≤ gb' := hgb
      omega
  have hqq : w'.heap[q]? = (wr.setCell ⟨q, k + 1, none⟩ (.int .i64 (par E (k + 1)))).heap[q]? := hK.block q hqlt q1 q2
  refine ⟨he, ⟨⟨ob, oc, gb', nc', hN2, hnc, q1, hq'⟩, ?_, qt, ?_⟩⟩
  · refine ⟨hst.1.1, ?_⟩
    rcases hst.1.2 with ⟨h0, _⟩ | ⟨g, c, cur, hv, a1, a2, a3⟩
    · cases h0
    · simp only [Value.slice.injEq, Option.some.injEq, Addr.mk.injEq] at hv
      obtain ⟨⟨rfl, _, _⟩, _, rfl⟩ := hv
      exact .inr ⟨q, n + 1, cur, rfl, a1, hqq.trans a2, a3⟩
  · have hbq := (h.pars.lt q rfl).1
    have hb1 : Below w.heap.size w (wr.setCell ⟨q, k + 1, none⟩ (.int .i64 (par E (k + 1)))) := h.bel.setCell hbq _
    have hbo := hN.bo
    have hbg := hN.bg.1
    have hsz := hK.size
    refine ⟨hK.os.trans hb1.os, hK.tape.trans hb1.tape, hK.output.trans hb1.output, Nat.le_trans hb1.size hsz, fun i hi => ?_⟩
    exact (hK.block i (Nat.lt_of_lt_of_le hi hb1.size) (by omega) (by omega)).trans (hb1.block i hi)

set_option maxHeartbeats 400000 in
theorem build_some (b off n cap : Nat) (E : Nat → Rw) (w : World) (hn : n ≤ 1024) (hb : b < w.heap.size) (hE : ∀ i, i < n → RwAt w b (off + i * 2) (E i)) (hok : ∀ i, i < n → RwOk (E i)) :
    Calls Yba.prog 5 #[.slice (some ⟨b, off, none⟩) n cap] w fun e w' => ∃ tb q, e = .returned (.tuple #[.pointer (some ⟨tb, 0, none⟩), .slice (some ⟨q, 0, none⟩) (n + 1) (n + 1)]) ∧ Built w w' tb q n n E := by
  obtain ⟨i0, hi, hz0, hz1, hz2⟩ := info_parts Yba.info3
  have hbytes : i0.bytes * (n + 1) ≤ 281474976710656 := by rw [hz2]; omega
  have hmax : n + 1 ≤ maxLen := by unfold maxLen; omega
  go_enter Yba.func5, Yba.ntmps5
  go_upto_region 3 with (first | (go_at_call 8; refine (newTree_any _).mono ?_; rintro e w1 ⟨rfl, ob, oc, gb, hN, hb1⟩) | (at_make; refine wpList_make_full _ rfl (.tmp 12) (.tmp 12) 24 rfl w.heap.size 3 i0 _ 1 Yba.underlying24 hi hz0 hz1 _ _ _ _ (n + 1) rfl rfl (by omega) (by omega) hbytes hmax hb1.size ?_; intro w2 hown2 hg2))
  obtain ⟨t0, t1, hB⟩ := built_start E hN hb1 hown2 hg2
  clear hown2 hg2 hN
  go_wp2
  generalize w2.setCell ⟨w1.heap.size, 0, none⟩ (Value.int .i64 (-1)) = W at *
  clear t0 t1
  generalize w1.heap.size = q at *
  go_loopw [6] (fun i wr => ∃ k : Nat, k ≤ n ∧ i = .int .i64 k ∧ Built w wr w.heap.size q n k E) (fun i _ => n - (intOf i).toNat)
  case atStart => exact ⟨0, Nat.zero_le _, rfl, hB⟩
  case round =>
    obtain ⟨k, hk, rfl, hBk⟩ := hrel
    by_cases hlt : k < n
    · obtain ⟨x0, x1⟩ := hE k hlt
      have hcel := fun o => hBk.bel.cell (p := ⟨b, o, none⟩) hb
      rw [← hcel] at x0 x1
      obtain ⟨o1, o2⟩ := hok k hlt
      obtain ⟨⟨v0, y0⟩, y1, hadd⟩ := built_step hBk hn hlt ⟨o1, o2⟩
      have hlt' : (k : Int) < (n : Int) := by omega
      have hlt1 : (k : Int) + 1 < (n : Int) + 1 := by omega
      clear hcel hE hok
      generalize hx : E k = x at *
      obtain ⟨xp, xs⟩ := x
      simp only at x0 x1 o1 o2 hadd
      have HA := Hid.mk hadd
      have HX : Hid (E k = (xp, xs)) := hx
      have hm0 : 0 ≤ xp % ((k : Int) + 1) := Int.emod_nonneg _ (by omega)
      have hm1 : xp % ((k : Int) + 1) < (k : Int) + 1 := Int.emod_lt_of_pos _ (by omega)
      have hw32 : IntKind.i32.wrap (xp % ((k : Int) + 1)) = xp % ((k : Int) + 1) := by simp [IntKind.wrap, IntKind.bits, IntKind.signed]; omega
      have hqb : b ≠ q := by have := (hBk.pars.lt q rfl).1; omega
      have z1 : (wr.setCell ⟨q, k + 1, none⟩ (Value.int .i64 (xp % ((k : Int) + 1)))).cell? ⟨b, off + k * 2 + 1, none⟩ = some (Value.int .i64 xs) := by rw [World.cell?_setCell_other _ _ _ _ (by simp [hqb])]; exact x1
      clear hadd hx hB
      go_wp2
      go_region_with ((go_at_call 9; refine HA.out.mono ?_; rintro e w' ⟨rfl, hB'⟩))
      go_wp2
      go_roundw
      case rel => exact ⟨k + 1, by omega, by go_num, hB'⟩
      case measure => simp [intOf]; omega
    · obtain rfl : k = n := by omega
      go_wp2
      go_ret2
      exact ⟨_, _, rfl, hBk⟩

end Go.Proofs.Ybulkazig
