/-
  Seat b2528a: laws that the walk lacks: an append with room as one step of a region that draws; make with a length and a capacity; copy of rows of elements of several cells.
-/
import Derived.Test.YbulkazigNodes
namespace Go.Proofs.Ybulkazig
open Go.RowKit
set_option linter.unusedVariables false

/-- append within the capacity, as one step of a region that draws its order. -/
theorem step_append_fits {P : Program} {ops : Array Oper} {o : Oper} {a : Act} {w : World} {K : Act → World → Prop} {Q : Exit → Act → World → Prop} {E : Prop}
    (hg : o.guard = none) (s x : Operand) (t : TypeId) (hop : o.op = Op.call { callee := Callee.builtin Builtin.append, args := #[s, x], argTypes := #[t, t] })
    (base : Nat) (e : TypeId) (i : TypeInfo) (size : Nat) (h1 : P.underlying t = some (.slice e)) (h2 : P.info? e = some i) (h4 : i.size = size)
    (g k cap : Nat) (xs : List Value) (hs : a.eval s = .slice (some ⟨g, 0, none⟩) k cap) (hown : w.ownsRow base e size (.slice (some ⟨g, 0, none⟩) k cap) k xs) (ad : Addr) (m c : Nat) (news : List Value) (hx : a.eval x = .slice (some ad) m c) (hn : news.length = m * size)
    (hc : ∀ j u, news[j]? = some u → w.cell? (ad.add j) = some u) (h1c : ∀ u ∈ news, u.oneCell' = true) (b1 : k + m ≤ cap)
    (hK : ∀ w', w'.ownsRow base e size (.slice (some ⟨g, 0, none⟩) (k + m) cap) (k + m) (xs ++ news) → w.grownBy w' (some g) → K (a.put o.dst (.slice (some ⟨g, 0, none⟩) (k + m) cap)) w') :
    if Region.wanted o (yielded ops a.tmps) = true then Oper.wp P o a w K Q else E := by
  have hw : Region.wanted o (yielded ops a.tmps) = true := by simp [Region.wanted, hg]
  rw [if_pos hw]
  obtain ⟨w', hrun, r1, r2⟩ := run_append_fits (P := P) w base t o.type e i size h1 h2 h4 g k cap xs hown ad m c news hn hc h1c b1
  unfold Oper.wp
  simp [execOp, hop, resolve, invoke, builtin, hs, hx, hrun, Result.andThen]
  exact hK _ r1 r2

/-- 'copy' of elements of whatever size into a row of the call's own. -/
theorem run_copy_own {P : Program} (w : World) (dT sT ty elem : TypeId) (i : TypeInfo) (size base g dLen dCap : Nat) (a : Addr) (sCap : Nat) (ys cs : List Value)
    (hu : P.underlying dT = some (.slice elem)) (hi : P.info? elem = some i) (hsz : i.size = size)
    (hown : w.ownsRow base elem size (.slice (some ⟨g, 0, none⟩) dLen dCap) dLen ys) (hn : cs.length = dLen * size)
    (hsrc : ∀ j v, cs[j]? = some v → w.cell? (a.add j) = some v) (h1 : ∀ v ∈ cs, v.oneCell' = true) :
    ∃ w', (Builtin.copy_ #[dT, sT] ty #[.slice (some ⟨g, 0, none⟩) dLen dCap, .slice (some a) dLen sCap]).run P w = .ok (goInt dLen) w' ∧
      w'.ownsRow base elem size (.slice (some ⟨g, 0, none⟩) dLen dCap) dLen cs ∧ w.grownBy w' (some g) := by
  subst hsz
  rcases hown.2 with ⟨h0, _⟩ | ⟨g', cap, cur, hv, hb, hh, hnc, hcm, hcs, htake⟩
  · cases h0
  · simp only [Value.slice.injEq, Option.some.injEq, Addr.mk.injEq] at hv
    obtain ⟨⟨rfl, _, _⟩, _, rfl⟩ := hv
    have hfit : cs.length ≤ cur.size := by rw [hn, hcs]; exact Nat.mul_le_mul_right _ hnc
    have hl := run_firstCells_some (P := P) w i.size dLen a dLen sCap cs hn hsrc
    have hst := run_storeCells_at P g 0 elem cs 0 cur w hh (by simpa using hfit) h1
    simp only [Nat.add_zero, Nat.zero_add, List.take_zero, List.nil_append] at hst
    refine ⟨w.setRow g (cs ++ cur.toList.drop cs.length).toArray, ?_, ⟨hn, .inr ⟨g, dCap, _, rfl, hb, setRow_heap w g cur _ elem _ hh, hnc, hcm, ?_, ?_⟩⟩, ⟨rfl, rfl, rfl, by simp, fun k _ hk => setRow_other w g k _ (fun e => hk (by simp [e]))⟩⟩
    · simp [Builtin.copy_, run_underlying hu, Builtin.lenOf, sizeOf, typeInfo, hi, hl, hst]
    · simp only [List.size_toArray, List.length_append, List.length_drop, Array.length_toList]
      omega
    · rw [← hn]
      exact List.take_left

theorem wpList_copy_rows {P : Program} {w : World} {ops : Array Oper} {rest : List Oper} {o : Oper} {a : Act} {Q : Exit → Act → World → Prop} (hgd : o.guard = none) (d s : Operand) (dT sT : TypeId)
    (ho : o.op = .call { callee := .builtin .copy, args := #[d, s], argTypes := #[dT, sT] }) (elem : TypeId) (i : TypeInfo) (size base g dLen dCap : Nat) (ad : Addr) (sCap : Nat) (ys cs : List Value)
    (hu : P.underlying dT = some (.slice elem)) (hi : P.info? elem = some i) (hsz : i.size = size)
    (hd : a.eval d = .slice (some ⟨g, 0, none⟩) dLen dCap) (hs : a.eval s = .slice (some ad) dLen sCap)
    (hown : w.ownsRow base elem size (.slice (some ⟨g, 0, none⟩) dLen dCap) dLen ys) (hn : cs.length = dLen * size)
    (hsrc : ∀ j v, cs[j]? = some v → w.cell? (ad.add j) = some v) (h1 : ∀ v ∈ cs, v.oneCell' = true)
    (h : ∀ w', w'.ownsRow base elem size (.slice (some ⟨g, 0, none⟩) dLen dCap) dLen cs → w.grownBy w' (some g) → wpList P ops Q rest (a.put o.dst (goInt dLen)) w') : wpList P ops Q (o :: rest) a w := by
  refine wpList_plain hgd fun K hK => ?_
  obtain ⟨w', hrun, r1, r2⟩ := run_copy_own (P := P) w dT sT o.type elem i size base g dLen dCap ad sCap ys cs hu hi hsz hown hn hsrc h1
  unfold Oper.wp
  simp [execOp, ho, resolve, invoke, builtin, hd, hs, hrun, Result.andThen]
  exact hK _ _ (h w' r1 r2)

/-- 'make([]T, n, c)', n at most c. -/
theorem wpList_make_part {P : Program} (w : World) {ops : Array Oper} {rest : List Oper} {o : Oper} {a : Act} {Q : Exit → Act → World → Prop}
    (hg : o.guard = none) (l c : Operand) (t : TypeId) (hop : o.op = Op.makeSlice t l c)
    (base : Nat) (e : TypeId) (i : TypeInfo) (z : Value) (size : Nat) (h1 : P.underlying t = some (.slice e)) (h2 : P.info? e = some i) (h3 : i.zero = some z) (h4 : i.size = size)
    (kl kc : IntKind) (L C : Int) (n m : Nat) (hl : a.eval l = .int kl L) (hc : a.eval c = .int kc C) (hL : L = (n : Int)) (hC : C = (m : Int)) (hnm : n ≤ m) (b2 : i.bytes * m ≤ 281474976710656) (b3 : m ≤ maxLen) (b4 : base ≤ w.heap.size)
    (hK : ∀ w' ys, w'.ownsRow base e size (.slice (some ⟨w.heap.size, 0, none⟩) n m) n ys → w.grownBy w' none → w'.heap.size = w.heap.size + 1 → wpList P ops Q rest (a.put o.dst (.slice (some ⟨w.heap.size, 0, none⟩) n m)) w') :
    wpList P ops Q (o :: rest) a w := by
  refine wpList_plain hg fun K hK' => ?_
  subst hL
  subst hC
  subst h4
  have h63 : (m : Int) ≤ 9223372036854775807 := by simp only [maxLen] at b3; omega
  have hb' : (i.bytes : Int) * (m : Int) ≤ 281474976710656 := by
    have h : ((i.bytes * m : Nat) : Int) ≤ 281474976710656 := by omega
    rwa [Int.natCast_mul] at h
  have hrun := run_make (P := P) w t e i z h1 h2 h3 kl kc (n : Int) (m : Int) (by omega) (by omega) hb' h63
  simp only [Int.toNat_natCast] at hrun
  unfold Oper.wp
  simp only [execOp, hop, hl, hc, Sem.run_bind, Sem.run_pure, hrun, Result.andThen]
  refine hK' _ _ (hK _ ((madeCells z.cells (m * i.size)).toList.take (n * i.size)) ⟨?_, .inr ⟨w.heap.size, m, _, rfl, b4, heap_alloc_new w _, hnm, b3, size_madeCells _ _, rfl⟩⟩ (World.grownBy_alloc w _ none) (by simp))
  rw [List.length_take, Array.length_toList, size_madeCells]
  exact Nat.min_eq_left (Nat.mul_le_mul_right _ hnm)

end Go.Proofs.Ybulkazig
