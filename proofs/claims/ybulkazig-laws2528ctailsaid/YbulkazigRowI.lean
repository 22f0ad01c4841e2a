/-
  Seat b2528a: rows of integers by an index function; the nodes' cells.
-/
import Derived.Test.YbulkazigBuild
import Derived.Test.YbulkazigPlain
namespace Go.Proofs.Ybulkazig
open Go.ChangeShapes Go.WideShapes Go.ChangeAt Go.RowKit
set_option linter.unusedVariables false
set_option linter.unusedSimpArgs false

/-- A slice of the call's own: m integers, by g. -/
def RowI (w : World) (base : Nat) (e : TypeId) (kd : IntKind) (q m : Nat) (g : Nat → Int) : Prop :=
  w.ownsRow base e 1 (.slice (some ⟨q, 0, none⟩) m m) m ((List.range m).map fun j => Value.int kd (g j))

section
variable {w w' : World} {base : Nat} {e : TypeId} {kd : IntKind} {q m : Nat} {g : Nat → Int}

theorem RowI.cell (h : RowI w base e kd q m g) (j : Nat) (hj : j < m) : w.cell? ⟨q, j, none⟩ = some (.int kd (g j)) := by
  rw [World.ownsRow.cellAt h j (by omega)]
  simp [hj]
theorem RowI.frozen (h : RowI w base e kd q m g) (j : Nat) : w.frozen? ⟨q, j, none⟩ = false := World.ownsRow.frozenAt h j
theorem RowI.lt (h : RowI w base e kd q m g) : base ≤ q ∧ q < w.heap.size := World.ownsRow.lt h q rfl
theorem RowI.congr (h : RowI w base e kd q m g) {g' : Nat → Int} (hg : ∀ j, j < m → g j = g' j) : RowI w base e kd q m g' := by
  unfold RowI at *
  have e1 : (List.range m).map (fun j => Value.int kd (g j)) = (List.range m).map (fun j => Value.int kd (g' j)) := List.map_congr_left fun j hj => by rw [hg j (List.mem_range.1 hj)]
  rw [← e1]
  exact h
theorem RowI.kept (h : RowI w base e kd q m g) {r : Option Nat} (hg : w.grownBy w' r) (hr : some q ≠ r) : RowI w' base e kd q m g := World.ownsRow.kept h hg (.inr hr)
theorem RowI.set (h : RowI w base e kd q m g) (j : Nat) (v : Int) : RowI (w.setCell ⟨q, j, none⟩ (.int kd v)) base e kd q m (upd g j v) ∧ w.grownBy (w.setCell ⟨q, j, none⟩ (.int kd v)) (some q) := by
  have hst := World.ownsRow.stored h j (.int kd v)
  refine ⟨?_, hst.2⟩
  have e1 : ((List.range m).map fun j => Value.int kd (g j)).set j (.int kd v) = (List.range m).map fun t => Value.int kd (upd g j v t) := by
    apply List.ext_getElem?
    intro t
    rw [List.getElem?_set]
    unfold upd
    by_cases h1 : j = t
    · subst h1
      by_cases h2 : j < m <;> simp [h2]
    · rw [if_neg h1]
      by_cases h2 : t < m
      · simp [h2, Ne.symm h1]
      · simp [h2]
  unfold RowI
  rw [← e1]
  exact hst.1
theorem RowI.drewN (h : RowI w base e kd q m g) (n : Nat) : RowI (w.drewN n) base e kd q m g := h
theorem RowI.drew (h : RowI w base e kd q m g) : RowI w.drew base e kd q m g := h
end

theorem row_made {w : World} {base : Nat} {e : TypeId} {kd : IntKind} {q m : Nat} (h : w.ownsRow base e 1 (.slice (some ⟨q, 0, none⟩) m m) m (madeCells (Value.int kd 0).cells (m * 1)).toList) : RowI w base e kd q m (fun _ => 0) := by
  unfold RowI
  have e1 : (madeCells (Value.int kd 0).cells (m * 1)).toList = List.replicate m (Value.int kd 0) := by
    rw [Nat.mul_one]
    exact toList_madeCells_one _ _
  rw [e1] at h
  have e2 : (List.range m).map (fun _ => Value.int kd 0) = List.replicate m (Value.int kd 0) := by rw [List.map_const', List.length_range]
  rw [e2]
  exact h

theorem Nodes.drew {w : World} {base tb ob oc gb n nc : Nat} {xs : List Value} (h : Nodes w base tb ob oc gb n nc xs) : Nodes w.drew base tb ob oc gb n nc xs :=
  ⟨h.c0, h.c1, h.f1, h.own, h.bt, h.bo, h.lt, h.lo, h.d1, h.d2, h.d3, h.n1, h.n2, h.n3⟩
theorem Nodes.drewN {w : World} {base tb ob oc gb n nc : Nat} {xs : List Value} (h : Nodes w base tb ob oc gb n nc xs) (k : Nat) : Nodes (w.drewN k) base tb ob oc gb n nc xs :=
  ⟨h.c0, h.c1, h.f1, h.own, h.bt, h.bo, h.lt, h.lo, h.d1, h.d2, h.d3, h.n1, h.n2, h.n3⟩

theorem nodesC_length (E : Nat → Rw) : ∀ k, (nodesC E k).length = (k + 1) * 5
  | 0 => rfl
  | k + 1 => by rw [nodesC, List.length_append, nodesC_length E k]; simp; omega

theorem nodesC_get (E : Nat → Rw) : ∀ n i, 1 ≤ i → i ≤ n → (nodesC E n)[i * 5 + 1]? = some (.int .i32 (par E i)) ∧ (nodesC E n)[i * 5 + 3]? = some (.int .i64 (E (i - 1)).2)
  | 0, i, h1, h2 => by omega
  | n + 1, i, h1, h2 => by
    rw [nodesC]
    by_cases hi : i ≤ n
    · rw [List.getElem?_append_left (by rw [nodesC_length]; omega), List.getElem?_append_left (by rw [nodesC_length]; omega)]
      exact nodesC_get E n i h1 hi
    · obtain rfl : i = n + 1 := by omega
      rw [List.getElem?_append_right (by rw [nodesC_length]; omega), List.getElem?_append_right (by rw [nodesC_length]; omega), nodesC_length]
      have e1 : (n + 1) * 5 + 1 - (n + 1) * 5 = 1 := by omega
      have e3 : (n + 1) * 5 + 3 - (n + 1) * 5 = 3 := by omega
      rw [e1, e3]
      exact ⟨rfl, rfl⟩

theorem Nodes.node {w : World} {base tb ob oc gb n nc : Nat} {E : Nat → Rw} (h : Nodes w base tb ob oc gb (n + 1) nc (nodesC E n)) (i : Nat) (h1 : 1 ≤ i) (h2 : i ≤ n) :
    w.cell? ⟨gb, i * 5 + 1, none⟩ = some (.int .i32 (par E i)) ∧ w.cell? ⟨gb, i * 5 + 3, none⟩ = some (.int .i64 (E (i - 1)).2) := by
  have g := nodesC_get E n i h1 h2
  exact ⟨(World.ownsRow.cellAt h.own (i * 5 + 1) (by omega)).trans g.1, (World.ownsRow.cellAt h.own (i * 5 + 3) (by omega)).trans g.2⟩

end Go.Proofs.Ybulkazig
