/-
  Seat b2528a: build at no node; the argument ns opened.
-/
import Derived.Test.YbulkazigBuild
import Derived.Deep.Slices
namespace Go.Proofs.Ybulkazig
open Go.ChangeShapes Go.WideShapes Go.ChangeAt Go.RowKit
set_option linter.unusedVariables false
set_option linter.unusedSimpArgs false

theorem build_zero (ao : Option Addr) (cap : Nat) (E : Nat → Rw) (w : World) :
    Calls Yba.prog 5 #[.slice ao 0 cap] w fun e w' => ∃ tb q, e = .returned (.tuple #[.pointer (some ⟨tb, 0, none⟩), .slice (some ⟨q, 0, none⟩) 1 1]) ∧ Built w w' tb q 0 0 E := by
  obtain ⟨i0, hi, hz0, hz1, hz2⟩ := info_parts Yba.info3
  have hbytes : i0.bytes * (0 + 1) ≤ 281474976710656 := by rw [hz2]; omega
  have hmax : 0 + 1 ≤ maxLen := by unfold maxLen; omega
  go_enter Yba.func5, Yba.ntmps5
  go_upto_region 3 with (first | (go_at_call 8; refine (newTree_any _).mono ?_; rintro e w1 ⟨rfl, ob, oc, gb, hN, hb1⟩) | (at_make; refine wpList_make_full _ rfl (.tmp 12) (.tmp 12) 24 rfl w.heap.size 3 i0 _ 1 Yba.underlying24 hi hz0 hz1 _ _ _ _ (0 + 1) rfl rfl (by omega) (by omega) hbytes hmax hb1.size ?_; intro w2 hown2 hg2))
  obtain ⟨t0, t1, hB⟩ := built_start (n := 0) E hN hb1 hown2 hg2
  clear hown2 hg2 hN
  go_wp2
  generalize w2.setCell ⟨w1.heap.size, 0, none⟩ (Value.int .i64 (-1)) = W at *
  clear t0 t1
  generalize w1.heap.size = q at *
  go_loopw [6] (fun i wr => i = .int .i64 0 ∧ wr = W) (fun i _ => 0 - (intOf i).toNat)
  case atStart => exact ⟨rfl, rfl⟩
  case round =>
    obtain ⟨rfl, rfl⟩ := hrel
    go_wp2
    go_ret2
    exact ⟨_, _, rfl, hB⟩

theorem Yba.cells40 : Yba.prog.cellsOf 40 = 2 := by kernel_rfl
theorem Yba.cells38 : Yba.prog.cellsOf 38 = 1 := by kernel_rfl
theorem Yba.cells2 : Yba.prog.cellsOf 2 = 1 := by kernel_rfl

theorem list2 {α : Type} {l : List α} (h : l.length = 2) : ∃ a b, l = [a, b] := by
  match l, h with
  | [a, b], _ => exact ⟨a, b, rfl⟩

theorem rw_of {H : Type} {enc : TypeId × Value → H} {W : World} {base : Nat} {sp : Nat → Bool} {held : Bool} {m : Nat} {cs : List Value} {y : DataW H × List MemPlace}
    (h : DataW.trod enc Yba.prog W base sp held m 40 cs = some y) :
    ∃ x : Rw, cs = [.int .u16 x.1, .int .i64 x.2] ∧ RwOk x ∧ (Lit.int .i64 x.2).wf = true := by
  obtain ⟨y0, y1, n, _, hl, f0, f1⟩ := trod_struct2 Yba.underlying40 h
  rw [Yba.cells40] at hl
  obtain ⟨c0, c1, rfl⟩ := list2 hl
  simp only [Yba.cells38, Yba.cells2] at f0 f1
  simp at f0 f1
  obtain ⟨a0, e0, _, w0⟩ := DataW.trod_int Yba.underlying38 f0
  obtain ⟨a1, e1, _, w1⟩ := DataW.trod_int Yba.underlying2 f1
  simp at e0 e1
  have hb := bounds_u16 w0
  exact ⟨(a0, a1), by rw [e0, e1], ⟨by simpa using hb.1, by simpa using hb.2⟩, w1⟩

/-- The slice that came in: nil, or a row of drawn nodes. -/
theorem ns_of {H : Type} {enc : TypeId × Value → H} {W : World} {sp : Nat → Bool} {held : Bool} {fuel len cap : Nat} {ao : Option Addr} {y : DataW H × List MemPlace}
    (h : DataW.trod enc Yba.prog W 0 sp held fuel 22 [.slice ao len cap] = some y) :
    (ao = none ∧ len = 0 ∧ cap = 0) ∨ (len ≤ maxLen ∧ (0 < len → ∃ b off, ∃ E : Nat → Rw, ao = some ⟨b, off, none⟩ ∧ b < W.heap.size ∧ (∀ i, i < len → RwAt W b (off + i * 2) (E i)) ∧ (∀ i, i < len → RwOk (E i)) ∧ ∀ i, i < len → (Lit.int .i64 (E i).2).wf = true) ∧ ∃ a, ao = some a) := by
  rcases Go.Deep.open_slice Yba.underlying22 h with ⟨hcs, _⟩ | ⟨a, len', cap', m, n, D, Pl, hcs, _, hl, hm, hmm, _, hel⟩
  · simp at hcs
    exact .inl hcs
  · simp at hcs
    obtain ⟨rfl, rfl, rfl⟩ := hcs
    refine .inr ⟨by omega, fun hpos => ?_, a, rfl⟩
    have hlm : len ≤ m := by rw [hmm]; split <;> omega
    rw [Yba.cells40] at hel
    obtain ⟨E, hE⟩ := Go.Deep.choose_lt (α := Rw) (p := fun i x => W.cells? 0 (a.add (i * 2)) 2 = some [.int .u16 x.1, .int .i64 x.2] ∧ RwOk x ∧ (Lit.int .i64 x.2).wf = true) (n := len) (fun i hi => by
      obtain ⟨cs', h1, h2⟩ := hel i (by omega)
      obtain ⟨x, rfl, hx⟩ := rw_of h2
      exact ⟨x, h1, hx⟩)
    obtain ⟨b, off, spot⟩ := a
    have hspot : spot = none := by
      have h0 := (World.cells?_some (hE 0 hpos).1).2.2 0 (by omega)
      simp [Addr.add] at h0
      exact World.cell?_spot h0
    subst hspot
    refine ⟨b, off, E, rfl, World.cells?_block (hE 0 hpos).1 (by omega), fun i hi => ?_, fun i hi => (hE i hi).2.1, fun i hi => (hE i hi).2.2⟩
    have hc := (World.cells?_some (hE i hi).1).2.2
    have c0 := hc 0 (by omega)
    have c1 := hc 1 (by omega)
    simp only [Addr.add_lit] at c0 c1
    exact ⟨c0, c1⟩

end Go.Proofs.Ybulkazig
