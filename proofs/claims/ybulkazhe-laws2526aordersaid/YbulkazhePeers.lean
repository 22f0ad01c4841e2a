/-
  Seat b2526a: the contracts of Len and Peers of a Shortcuts[int] without a cache.
-/
import Derived.Test.YbulkazheBuild
namespace Go.Proofs.Ybulkazhe
open Go.ChangeShapes Go.WideShapes Go.ChangeAt Go.RowKit Go.Sort
set_option linter.unusedVariables false

theorem grownBy_setCell (w : World) (a : Addr) (v : Value) : w.grownBy (w.setCell a v) (some a.block) :=
  ⟨rfl, rfl, rfl, by simp [World.setCell], fun k hk hne => Below.heap_setCell _ _ _ _ (fun e => hne (by rw [e]))⟩

theorem len_any (sb : Nat) (ao : Option Addr) (n c : Nat) (w : World) (hn : n ≤ 256) (h1 : w.cell? ⟨sb, 1, none⟩ = some (.slice ao n c)) (h3 : w.cell? ⟨sb, 3, none⟩ = some (.pointer none)) :
    Calls Yba.prog 8 #[.pointer (some ⟨sb, 0, none⟩)] w fun e w' => e = .returned (.int .i64 n) ∧ w = w' := by
  go_enter Yba.func8, Yba.ntmps8
  go_wp2
  go_ret
  exact ⟨rfl, rfl⟩

/-- The peers of the first k entries, as cells. -/
def peersTo (F : Nat → Int × Int × Int × Int) : Nat → List Value
  | 0 => []
  | k + 1 => peersTo F k ++ [.int .i64 (F k).1]

/-- Four cells of a shortcut. -/
def EntAt (w : World) (b off : Nat) (x : Int × Int × Int × Int) : Prop :=
  w.cell? ⟨b, off, none⟩ = some (.int .i64 x.1) ∧ w.cell? ⟨b, off + 1, none⟩ = some (.int .i64 x.2.1) ∧ w.cell? ⟨b, off + 2, none⟩ = some (.int .i64 x.2.2.1) ∧ w.cell? ⟨b, off + 3, none⟩ = some (.int .u64 x.2.2.2)

theorem cells_new1 (W : World) (a : Value) (t : TypeId) (g : Nat) (hg : g = W.heap.size) : ∀ j u, [a][j]? = some u → (W.alloc (.cells #[a] t)).cell? ((⟨g, 0, none⟩ : Addr).add j) = some u := by
  intro j u hu
  subst hg
  rw [Addr.add_lit, Nat.zero_add]
  have : (W.alloc (.cells #[a] t)).heap[W.heap.size]? = some (.cells #[a] t) := heap_alloc_new W _
  unfold World.cell?
  rw [this]
  simpa using hu

/-- The boxed variable stands behind two new blocks and an append into another row. -/
theorem box_kept {wr w2 : World} {bx g : Nat} {v : Value} {o1 o2 : Obj} (h : wr.cell? ⟨bx, 0, none⟩ = some v) (hf : wr.frozen? ⟨bx, 0, none⟩ = false) (hs : bx < wr.heap.size) (hne : g < bx) (hg : ((wr.alloc o1).alloc o2).grownBy w2 (some g)) :
    w2.cell? ⟨bx, 0, none⟩ = some v ∧ w2.frozen? ⟨bx, 0, none⟩ = false ∧ bx < w2.heap.size := by
  have hz := hg.size
  simp at hz
  have e : w2.heap[bx]? = wr.heap[bx]? := by
    rw [hg.block bx (by simp; omega) (by simp; omega), Below.heap_alloc _ _ _ (by simp; omega), Below.heap_alloc _ _ _ hs]
  exact ⟨(World.cell?_of_block (a := ⟨bx, 0, none⟩) e).trans h, (World.frozen?_of_block (a := ⟨bx, 0, none⟩) e).trans hf, by omega⟩

set_option maxHeartbeats 1000000 in
theorem peers_any (sb g n c : Nat) (F : Nat → Int × Int × Int × Int) (w : World) (hn : n ≤ 256) (h1 : w.cell? ⟨sb, 1, none⟩ = some (.slice (some ⟨g, 0, none⟩) n c)) (h3 : w.cell? ⟨sb, 3, none⟩ = some (.pointer none))
    (hsb : sb < w.heap.size) (hg : g < w.heap.size) (hF : ∀ i, i < n → EntAt w g (i * 4) (F i)) :
    Calls Yba.prog 9 #[.pointer (some ⟨sb, 0, none⟩)] w fun e w' => ∃ q, e = .returned (.slice (some ⟨q, 0, none⟩) n n) ∧ w'.ownsRow w.heap.size 3 1 (.slice (some ⟨q, 0, none⟩) n n) n (peersTo F n) ∧ Below w.heap.size w w' := by
  obtain ⟨i0, hi, hz0, hz1, hz2⟩ := info_parts Yba.info3
  have hbn : i0.bytes * n ≤ 281474976710656 := by rw [hz2]; omega
  have hbm : n ≤ maxLen := by unfold maxLen; omega
  go_enter Yba.func9, Yba.ntmps9
  go_wp2_with (first | (go_at_call 8; refine (len_any _ _ _ _ _ hn h1 h3).mono ?_; rintro e w' ⟨rfl, rfl⟩) | (at_make; refine wpList_make_own _ rfl _ _ 36 rfl w.heap.size 3 i0 _ 1 Yba.underlying36 hi hz0 hz1 _ _ _ n rfl rfl rfl hbn hbm (Nat.le_refl _) ?_; intro w1 hown1 hg1; have c1 := hg1.cell h1 (by simp); have c3 := hg1.cell h3 (by simp); have hsb1 := Nat.lt_of_lt_of_le hsb hg1.size))
  have hb1 : Below w.heap.size w w1 := (Below.refl _ _).grown hg1 (Nat.le_refl _) (by simp)
  have hw1 : w.heap.size < w1.heap.size := (hown1.lt w.heap.size rfl).2
  go_loopw [26] (fun i wr => ∃ k : Nat, k ≤ n ∧ i = .int .i64 k ∧ wr.cell? ⟨w1.heap.size, 0, none⟩ = some (.slice (some ⟨w.heap.size, 0, none⟩) k n) ∧ wr.frozen? ⟨w1.heap.size, 0, none⟩ = false ∧ w1.heap.size < wr.heap.size ∧ wr.ownsRow w.heap.size 3 1 (.slice (some ⟨w.heap.size, 0, none⟩) k n) k (peersTo F k) ∧ Below w.heap.size w wr) (fun i _ => n - (intOf i).toNat)
  case atStart => exact ⟨0, Nat.zero_le _, rfl, by simp, by simp, by simp, hown1.alloc _, hb1.alloc (by omega) _⟩
  case round =>
    obtain ⟨k, hk, rfl, hbx, hbf, hbs, hown, hbel⟩ := hrel
    by_cases hlt : k < n
    · obtain ⟨d0, d1, d2, d3⟩ := hF k hlt
      have hcel := fun o => hbel.cell (p := ⟨g, o, none⟩) hg
      rw [← hcel] at d0 d1 d2 d3
      have hlt' : (k : Int) < (n : Int) := by omega
      have hsz : w.heap.size ≤ wr.heap.size := hbel.size
      clear hcel hF hown1 c1 c3 h1 h3
      generalize hx : F k = x at *
      obtain ⟨x0, x1, x2, x3⟩ := x
      have HX : Hid (F k = (x0, x1, x2, x3)) := hx
      clear hx
      simp only at d0 d1 d2 d3
      go_wp2_with (at_builtin; refine wpList_append_fits _ rfl (.tmp 30) (.tmp 33) 36 rfl w.heap.size 3 i0 1 Yba.underlying36 hi hz1 w.heap.size k n (peersTo F k) rfl ((hown.alloc _).alloc _) ⟨wr.heap.size + 1, 0, none⟩ 1 1 [.int .i64 x0] rfl rfl (cells_new1 _ _ _ _ (by simp)) (by simp [Value.oneCell']) (by omega) ?_; intro w2 hown2 hg2; obtain ⟨hbx2, hbf2, hbs2⟩ := box_kept hbx hbf hbs hw1 hg2)
      have hown' : (w2.setCell ⟨w1.heap.size, 0, none⟩ (.slice (some ⟨w.heap.size, 0, none⟩) (k + 1) n)).ownsRow w.heap.size 3 1 (.slice (some ⟨w.heap.size, 0, none⟩) (k + 1) n) (k + 1) (peersTo F (k + 1)) := by
        have e : peersTo F (k + 1) = peersTo F k ++ [.int .i64 x0] := by rw [peersTo, HX.out]
        rw [e]
        exact hown2.kept (grownBy_setCell _ _ _) (.inr (by simp [Value.ownBlock]; omega))
      have hbel' : Below w.heap.size w w2 := ((hbel.alloc hsz _).alloc (by simp; omega) _).grown hg2 (by simp; omega) (by simp)
      go_roundw
      case rel =>
        go_light
        exact ⟨k + 1, by omega, by go_num, World.cell?_setCell_same _ _ _ hbx2, (World.frozen?_setCell _ _ _ _).trans hbf2, by simpa [World.setCell] using hbs2, hown', hbel'.setCell (by simp; omega) _⟩
      case measure => simp [intOf]; omega
    · obtain rfl : k = n := by omega
      go_wp2
      go_ret
      exact ⟨_, rfl, hown, hbel⟩
end Go.Proofs.Ybulkazhe
