/-
  Seat b2526a: the contract of (*Shortcuts[int]).sort, out of the kit's contract of slices.SortFunc at structs.
-/
import Derived.Test.YbulkazheLaw
import Derived.Test.YbulkazheShelf
import Derived.Shelf.SlSortCmp.WholeK
namespace Go.Proofs.Ybulkazhe
open Go.Shelf Go.RowKit Go.Lib Go.Sort
set_option linter.unusedVariables false

theorem lt_bef (x y : Ent) : ltOf cfE x y = true ↔ befE x y := by
  unfold ltOf
  rw [decide_eq_true_iff]
  exact cmpI_neg _ _ _ _ _ _

theorem lt_not (x y : Ent) : ltOf cfE x y = false ↔ ¬ befE x y := by
  rw [← lt_bef, Bool.not_eq_true]

theorem swoE : SWO (ltOf cfE) := {
  irrefl := fun x => (lt_not _ _).2 (befE_irrefl x)
  trans := fun x y z h1 h2 => (lt_bef _ _).2 (befE_trans x y z ((lt_bef _ _).1 h1) ((lt_bef _ _).1 h2))
  ntrans := fun x y z h1 h2 => (lt_not _ _).2 (befE_ntrans x y z ((lt_not _ _).1 h1) ((lt_not _ _).1 h2)) }

theorem cmpLays11 (blk off size : Nat) (w : World) : CmpLays Yba.prog 11 #[] encE 4 cfE blk off size w :=
  fun _ _ _ _ x y => closure11 (pe x) (tr x) (su x) (jo x) (pe y) (tr y) (su y) (jo y) (prod_bd _ _ (su_bd y) (tr_bd x)) (prod_bd _ _ (su_bd x) (tr_bd y)) _

set_option maxHeartbeats 1000000 in
theorem sort_ok : SortOk := by
  intro sb g n c E W hn h1 hH hg
  have eg : ∀ args w, (callFunc 11 args).run Yba.prog w = .ok (.enter 11 args) w := enters_of Yba.func11 (by kernel_rfl) rfl
  have hcon := AnyQ.slices_SortFunc Yba.sortSh 4 Yba.isAgg29 Yba.sizeOf29 encE encE_length encE_one cfE swoE 11 #[] g 0 c (ents E n) W eg (cmpLays11 g 0 _ W) hH hg (by rw [ents_size]; omega)
  change Calls Yba.prog 10 _ _ _ at hcon
  rw [ents_size] at hcon
  have hcon' : Calls Yba.prog 10 #[.slice (some ⟨g, 0, none⟩) n c, .func (.func 11) #[] #[]] W fun e w' => e = .returned (.tuple #[]) ∧ ∃ d' : Array Ent, d'.size = n ∧ (∀ i, i + 1 < n → befE d'[i]! d'[i + 1]!) ∧ HoldsK encE 4 w' g 0 d' ∧ W.grownBy w' (some g) :=
    hcon.mono fun e w' ⟨he, d', m, os, hp, hs, hw⟩ => by
      have hb := sorted_bef (E := E) (n := n) lt_bef (by omega) (d' := d') (by rw [ents_size]; exact hp) (by rw [ents_size]; exact hs)
      refine ⟨he, d', hb.1, hb.2, ?_, ?_⟩
      · rw [hw]; exact holds_sortK hH (by rw [hb.1, ents_size]) hg
      · rw [hw]; exact grownBy_sortK _ _ _ _ _
  clear hcon hH
  go_enter Yba.func7, Yba.ntmps7
  go_wp2_with (go_at_call 10; refine hcon'.mono ?_; rintro e w' ⟨rfl, d', r1, r2, r3, r4⟩)
  go_end0
  exact ⟨rfl, d', r1, r2, r3, r4⟩

end Go.Proofs.Ybulkazhe
