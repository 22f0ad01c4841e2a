/-
  Seat b2526a: the argument of LawS2526AOrder, opened: a slice of entries.
-/
import Derived.Test.YbulkazheBuild
import Derived.Deep.Slices
import Derived.Lib.SmallJoins
namespace Go.Proofs.Ybulkazhe
open Go.ChangeShapes Go.WideShapes Go.ChangeAt Go.RowKit
set_option linter.unusedVariables false

theorem Yba.cells40 : Yba.prog.cellsOf 40 = 4 := by kernel_rfl
theorem Yba.cells3 : Yba.prog.cellsOf 3 = 1 := by kernel_rfl
theorem Yba.cells23 : Yba.prog.cellsOf 23 = 1 := by kernel_rfl
theorem Yba.cells5 : Yba.prog.cellsOf 5 = 1 := by kernel_rfl

theorem rawOk_of {x : Raw} (h1 : (Lit.int .u16 x.2.1).wf = true) (h2 : (Lit.int .u16 x.2.2.1).wf = true) (h3 : (Lit.int .u8 x.2.2.2).wf = true) : RawOk x := by
  have a := bounds_u16 h1
  have b := bounds_u16 h2
  have c := bounds_u8 h3
  unfold RawOk
  omega

theorem list4 {α : Type} {l : List α} (h : l.length = 4) : ∃ a b c d, l = [a, b, c, d] := by
  match l, h with
  | [a, b, c, d], _ => exact ⟨a, b, c, d, rfl⟩

theorem raw_of {H : Type} {enc : TypeId × Value → H} {W : World} {base : Nat} {sp : Nat → Bool} {held : Bool} {m : Nat} {cs : List Value} {y : DataW H × List MemPlace}
    (h : DataW.trod enc Yba.prog W base sp held m 40 cs = some y) :
    ∃ x : Raw, cs = [.int .i64 x.1, .int .u16 x.2.1, .int .u16 x.2.2.1, .int .u8 x.2.2.2] ∧ RawOk x := by
  obtain ⟨y0, y1, y2, y3, n, _, hl, f0, f1, f2, f3⟩ := Go.Joins.trod_struct4 Yba.underlying40 h
  rw [Yba.cells40] at hl
  obtain ⟨c0, c1, c2, c3, rfl⟩ := list4 hl
  simp only [Yba.cells3, Yba.cells23, Yba.cells5] at f0 f1 f2 f3
  simp at f0 f1 f2 f3
  obtain ⟨a0, e0, _, w0⟩ := DataW.trod_int Yba.underlying3 f0
  obtain ⟨a1, e1, _, w1⟩ := DataW.trod_int Yba.underlying23 f1
  obtain ⟨a2, e2, _, w2⟩ := DataW.trod_int Yba.underlying23 f2
  obtain ⟨a3, e3, _, w3⟩ := DataW.trod_int Yba.underlying5 f3
  simp at e0 e1 e2 e3
  exact ⟨(a0, a1, a2, a3), by rw [e0, e1, e2, e3], rawOk_of (x := (a0, a1, a2, a3)) w1 w2 w3⟩

/-- The slice that came in: nil, or a row of entries. -/
theorem es_of {H : Type} {enc : TypeId × Value → H} {W : World} {sp : Nat → Bool} {held : Bool} {fuel len cap : Nat} {ao : Option Addr} {y : DataW H × List MemPlace}
    (h : DataW.trod enc Yba.prog W 0 sp held fuel 22 [.slice ao len cap] = some y) :
    (ao = none ∧ len = 0 ∧ cap = 0) ∨ (len ≤ maxLen ∧ (0 < len → ∃ b off, ∃ E : Nat → Raw, ao = some ⟨b, off, none⟩ ∧ b < W.heap.size ∧ (∀ i, i < len → RawAt W b (off + i * 4) (E i)) ∧ ∀ i, i < len → RawOk (E i)) ∧ ∃ a, ao = some a) := by
  rcases Go.Deep.open_slice Yba.underlying22 h with ⟨hcs, _⟩ | ⟨a, len', cap', m, n, D, Pl, hcs, _, hl, hm, hmm, _, hel⟩
  · simp at hcs
    exact .inl hcs
  · simp at hcs
    obtain ⟨rfl, rfl, rfl⟩ := hcs
    refine .inr ⟨by omega, fun hpos => ?_, a, rfl⟩
    have hlm : len ≤ m := by rw [hmm]; split <;> omega
    rw [Yba.cells40] at hel
    obtain ⟨E, hE⟩ := Go.Deep.choose_lt (α := Raw) (p := fun i x => W.cells? 0 (a.add (i * 4)) 4 = some [.int .i64 x.1, .int .u16 x.2.1, .int .u16 x.2.2.1, .int .u8 x.2.2.2] ∧ RawOk x) (n := len) (fun i hi => by
      obtain ⟨cs', h1, h2⟩ := hel i (by omega)
      obtain ⟨x, rfl, hx⟩ := raw_of h2
      exact ⟨x, h1, hx⟩)
    obtain ⟨b, off, spot⟩ := a
    have hspot : spot = none := by
      have h0 := (World.cells?_some (hE 0 hpos).1).2.2 0 (by omega)
      simp [Addr.add] at h0
      exact World.cell?_spot h0
    subst hspot
    refine ⟨b, off, E, rfl, World.cells?_block (hE 0 hpos).1 (by omega), fun i hi => ?_, fun i hi => (hE i hi).2⟩
    have hc := (World.cells?_some (hE i hi).1).2.2
    have c0 := hc 0 (by omega)
    have c1 := hc 1 (by omega)
    have c2 := hc 2 (by omega)
    have c3 := hc 3 (by omega)
    simp only [Addr.add_lit] at c0 c1 c2 c3
    exact ⟨c0, c1, c2, c3⟩

end Go.Proofs.Ybulkazhe
