/-
  Seat b2526a: the walk of LawS2526AOrder, out of the contracts.
-/
import Derived.Test.YbulkazheRow
import Derived.Test.YbulkazhePeers
import Derived.Shelf.SlSortCmp.QuietGrown
namespace Go.Proofs.Ybulkazhe
open Go.ChangeShapes Go.WideShapes Go.ChangeAt Go.RowKit Go.Sort
set_option linter.unusedVariables false

/-- What the law asks of sort. -/
def SortOk : Prop := ∀ (sb g n c : Nat) (E : Nat → Raw) (W : World), n ≤ 256 → W.cell? ⟨sb, 1, none⟩ = some (.slice (some ⟨g, 0, none⟩) n c) → HoldsK encE 4 W g 0 (ents E n) → g < W.heap.size →
  Calls Yba.prog 7 #[.pointer (some ⟨sb, 0, none⟩)] W fun e w' => e = .returned (.tuple #[]) ∧ ∃ d' : Array Ent, d'.size = n ∧ (∀ i, i + 1 < n → befE d'[i]! d'[i + 1]!) ∧ HoldsK encE 4 w' g 0 d' ∧ W.grownBy w' (some g)

theorem below_grow {B : Nat} {a w : World} (h : Below B a w) (hB : B ≤ w.heap.size) (os : Array Obj) : Below B a (grow w os) :=
  h.trans ⟨rfl, rfl, rfl, by simp, fun k hk => heap_grow_old _ _ (by omega)⟩

theorem Hid.mk {p : Prop} (h : p) : Hid p := h

theorem peersTo_length (F : Nat → Int × Int × Int × Int) : ∀ n, (peersTo F n).length = n
  | 0 => rfl
  | n + 1 => by rw [peersTo, List.length_append, peersTo_length F n]; rfl
theorem peersTo_get (F : Nat → Int × Int × Int × Int) : ∀ n t, t < n → (peersTo F n)[t]? = some (.int .i64 (F t).1)
  | 0, t, h => by omega
  | n + 1, t, h => by
    rw [peersTo]
    by_cases ht : t < n
    · rw [List.getElem?_append_left (by rw [peersTo_length]; exact ht)]
      exact peersTo_get F n t ht
    · obtain rfl : t = n := by omega
      rw [List.getElem?_append_right (by rw [peersTo_length]; omega), peersTo_length]
      simp

def four (x : Ent) : Int × Int × Int × Int := (pe x, tr x, su x, jo x)

theorem entAt_of {w : World} {g : Nat} {d : Array Ent} (h : HoldsK encE 4 w g 0 d) (i : Nat) (hi : i < d.size) : EntAt w g (i * 4) (four d[i]!) := by
  have h0 := (h.cell (i := i) (c := 0) hi (by omega)).1
  have h1 := (h.cell (i := i) (c := 1) hi (by omega)).1
  have h2 := (h.cell (i := i) (c := 2) hi (by omega)).1
  have h3 := (h.cell (i := i) (c := 3) hi (by omega)).1
  rw [Nat.zero_add] at h0 h1 h2 h3
  exact ⟨h0, h1, h2, h3⟩

theorem EntAt.below {B : Nat} {w w' : World} {g o : Nat} {x : Int × Int × Int × Int} (h : EntAt w g o x) (hb : Below B w w') (hg : g < B) : EntAt w' g o x :=
  ⟨(hb.cell (p := ⟨g, _, none⟩) hg).trans h.1, (hb.cell (p := ⟨g, _, none⟩) hg).trans h.2.1, (hb.cell (p := ⟨g, _, none⟩) hg).trans h.2.2.1, (hb.cell (p := ⟨g, _, none⟩) hg).trans h.2.2.2⟩

theorem walk_big (ao : Option Addr) (n cap : Nat) (w : World) (hn : 256 < n) (hm : n ≤ maxLen) :
    Calls Yba.prog 4 #[.slice ao n cap] w fun e w' => e = .returned (.bool true) ∧ Below w.heap.size w w' := by
  unfold maxLen at hm
  have hn' : (256 : Int) < (n : Int) := by omega
  go_enter Yba.func4, Yba.ntmps4
  go_wp2
  go_ret
  exact ⟨rfl, Below.refl _ _⟩

set_option maxHeartbeats 2000000 in
theorem walk_small (hsort : SortOk) (ao : Option Addr) (n cap : Nat) (E : Nat → Raw) (w : World) (hn : n ≤ 256)
    (hB : Calls Yba.prog 5 #[.slice ao n cap] w fun e w' => ∃ g, e = .returned (.slice (some ⟨g, 0, none⟩) n n) ∧ w'.ownsRow w.heap.size 29 4 (.slice (some ⟨g, 0, none⟩) n n) n (cellsTo E n) ∧ Below w.heap.size w w') :
    Calls Yba.prog 4 #[.slice ao n cap] w fun e w' => e = .returned (.bool true) ∧ Below w.heap.size w w' := by
  have hmix : Yba.prog.follows .mixedOrders = true := by kernel_rfl
  have hn' : (n : Int) ≤ 256 := by omega
  go_enter Yba.func4, Yba.ntmps4
  go_wp2_with (go_at_call 5; refine hB.mono ?_; rintro e w1 ⟨g, rfl, hown, hb1⟩)
  obtain ⟨hH, hg1, hg0⟩ := holds_built hown
  refine (hsort w1.heap.size g n n E _ hn (by simp) (by rw [alloc_eq_grow]; exact holdsK_grow _ _ _ _ _ _ _ hg1 hH) (by simp; omega)).mono ?_
  rintro e w2 ⟨rfl, d', hd', hbef, hH2, hgr⟩
  have hsz2 : w1.heap.size < w2.heap.size := by have := hgr.size; simp at this; omega
  have hs1 : w2.cell? ⟨w1.heap.size, 1, none⟩ = some (.slice (some ⟨g, 0, none⟩) n n) := hgr.cell (by simp) (by simp; omega)
  have hs3 : w2.cell? ⟨w1.heap.size, 3, none⟩ = some (.pointer none) := hgr.cell (by simp) (by simp; omega)
  have hb2 : Below w.heap.size w w2 := (hb1.alloc hb1.size _).grown hgr (by simp; have := hb1.size; omega) (by simp; omega)
  have hg2 : g < w2.heap.size := by omega
  have hE2 : ∀ i, i < n → EntAt w2 g (i * 4) (four d'[i]!) := fun i hi => entAt_of hH2 i (by omega)
  have hlow : w.heap.size ≤ w2.heap.size := hb2.size
  clear hgr hown hH hH2 hsort hB
  go_wp2_with (go_at_call 8; refine (len_any _ _ _ _ _ hn hs1 hs3).mono ?_; rintro e w' ⟨rfl, rfl⟩)
  go_loopw [4] (fun i wr => ∃ m : Nat, 1 ≤ m ∧ m ≤ n + 1 ∧ i = .int .i64 m ∧ Below w2.heap.size w2 wr) (fun i _ => n + 1 - (intOf i).toNat)
  case atStart => exact ⟨1, Nat.le_refl _, by omega, rfl, Below.refl _ _⟩
  case round =>
    obtain ⟨m, hm1, hm2, rfl, hbel⟩ := hrel
    have hs1r : wr.cell? ⟨w1.heap.size, 1, none⟩ = some (.slice (some ⟨g, 0, none⟩) n n) := (hbel.cell (p := ⟨_, _, none⟩) hsz2).trans hs1
    have hszr : w2.heap.size ≤ wr.heap.size := hbel.size
    by_cases hlt : m < n
    · obtain ⟨k, hk⟩ : ∃ k : Nat, m = k + 1 := ⟨m - 1, by omega⟩
      have hxm : EntAt wr g (m * 4) (four d'[m]!) := (hE2 m hlt).below hbel hg2
      have hxk : EntAt wr g (k * 4) (four d'[k]!) := (hE2 k (by omega)).below hbel hg2
      have hbf : befE d'[k]! d'[m]! := by rw [hk]; exact hbef k (by omega)
      have hlt1 : (m : Int) < (n : Int) := by omega
      have hlt0 : (k : Int) < (n : Int) := by omega
      have hwk : IntKind.i64.wrap ((m : Int) - 1) = (k : Int) := by rw [hk]; simp [IntKind.wrap, IntKind.bits, IntKind.signed]; omega
      clear hk
      clear hE2 hbef
      obtain ⟨x0, x1, x2, x3⟩ := hxk
      obtain ⟨y0, y1, y2, y3⟩ := hxm
      generalize d'[k]! = dx at *
      generalize d'[m]! = dy at *
      have px := prod_bd _ _ (su_bd dx) (tr_bd dy)
      have py := prod_bd _ _ (su_bd dy) (tr_bd dx)
      have hbY := fun W => before_yes (pe dx) (tr dx) (su dx) (jo dx) (pe dy) (tr dy) (su dy) (jo dy) py px hbf W
      simp only [four] at x0 x1 x2 x3 y0 y1 y2 y3
      have HY := Hid.mk hbY
      clear hbY hbf px py
      generalize pe dx = px0 at *
      generalize tr dx = px1 at *
      generalize su dx = px2 at *
      generalize jo dx = px3 at *
      generalize pe dy = py0 at *
      generalize tr dy = py1 at *
      generalize su dy = py2 at *
      generalize jo dy = py3 at *
      have f1 := cell_grown (by exact Nat.lt_of_lt_of_le hsz2 hszr) hs1r
      have hgr' : g < wr.heap.size := by omega
      have g0 := cell_grown (by exact hgr') x0
      have g1 := cell_grown (by exact hgr') x1
      have g2 := cell_grown (by exact hgr') x2
      have g3 := cell_grown (by exact hgr') x3
      have q0 := cell_grown (by exact hgr') y0
      have q1 := cell_grown (by exact hgr') y1
      have q2 := cell_grown (by exact hgr') y2
      have q3 := cell_grown (by exact hgr') y3
      clear x0 x1 x2 x3 y0 y1 y2 y3
      go_wp2
      go_quiet_grown ((go_at_call 6; exact Calls.grown_of (HY.out _)))
      go_wp2
      go_roundw
      case rel =>
        go_light
        exact ⟨m + 1, by omega, by omega, by go_num, below_grow (below_drewN hbel _) hszr _⟩
      case measure => simp [intOf]; omega
    · have hs3r : wr.cell? ⟨w1.heap.size, 3, none⟩ = some (.pointer none) := (hbel.cell (p := ⟨_, _, none⟩) hsz2).trans hs3
      have hF : ∀ i, i < n → EntAt wr g (i * 4) (four d'[i]!) := fun i hi => (hE2 i hi).below hbel hg2
      have hP := peers_any w1.heap.size g n n (fun i => four d'[i]!) wr hn hs1r hs3r (by omega) (by omega) hF
      have hbw : Below w.heap.size w wr := hb2.trans (hbel.mono hlow)
      clear hE2 hbef
      go_wp2_with (go_at_call 9; refine hP.mono ?_; rintro e w3 ⟨q, rfl, hown3, hb3⟩; have hs13 := (hb3.cell (p := ⟨w1.heap.size, 1, none⟩) (by exact Nat.lt_of_lt_of_le hsz2 hszr)).trans hs1r)
      go_loopw [59] (fun i wx => ∃ k : Nat, k ≤ n ∧ i = .int .i64 k ∧ ∃ m, wx = w3.drewN m) (fun i _ => n - (intOf i).toNat)
      case atStart => exact ⟨0, Nat.zero_le _, rfl, 0, rfl⟩
      case round =>
        obtain ⟨k, hk, rfl, m', rfl⟩ := hrel
        by_cases hkn : k < n
        · have hq := hown3.cells (g := q) rfl k _ (peersTo_get _ n k hkn)
          rw [Addr.add_lit, Nat.zero_add] at hq
          have hx0 := ((hF k hkn).below hb3 (by omega)).1
          have hkn' : (k : Int) < (n : Int) := by omega
          clear hF
          generalize four d'[k]! = xk at *
          go_wp2
          go_quiet (fail)
          go_wp2
          go_roundw
          case rel => exact ⟨k + 1, by omega, by go_num, _, rfl⟩
          case measure => simp [intOf]; omega
        · go_wp2
          go_ret
          exact ⟨rfl, below_drewN (hbw.trans (hb3.mono hbw.size)) _⟩

end Go.Proofs.Ybulkazhe
