/-
  Seat b2525a: 'Rows.LawS2525CCopySaid', proved.
-/
import Derived.Test.YbulkazgqWalks
import Derived.Deep.Light
namespace Go.Proofs.Ybulkazgq.lawS2525CCopy
open Go.ChangeShapes Go.WideShapes Go.ChangeAt Go.RowKit
open Go.ChangeMaps (open_string shut_string)
set_option linter.unusedVariables false

theorem own : ownKnob Yba.prog.godebug = none := by kernel_rfl

/-- binaryValue: a Value of the kind 6 that holds the text. -/
theorem binary_any (s : ByteArray) (w : World) :
    Calls Yba.prog 7 #[.string s] w fun e w' => e = .returned (.agg #[.int .u64 6, .string s, .int .i64 0]) ∧ Below w.heap.size w w' := by
  go_enter Yba.func7, Yba.ntmps7
  go_wp2
  exact bodyPost_ret (v := .agg #[.int .u64 6, .string s, .int .i64 0]) (by simp [results, Yba.results7, go_sem]) rfl ⟨rfl, (Below.refl _ _).alloc (Nat.le_refl _) _⟩

set_option maxHeartbeats 1000000 in
theorem walk (a0 : ByteArray) (w0 : a0.size ≤ maxLen) (w : World) :
    Calls Yba.prog 4 #[.string a0] w fun e w' => e = .returned (.bool true) ∧ Below w.heap.size w w' := by
  unfold maxLen at w0
  by_cases hl : (4096 : Int) < (a0.size : Int)
  · go_enter Yba.func4, Yba.ntmps4
    go_wp2
    go_ret
    exact ⟨rfl, Below.refl _ _⟩
  · have hl' : a0.size ≤ 4096 := by omega
    go_enter Yba.func4, Yba.ntmps4
    go_wp2_with (first | (go_at_call 7; refine (binary_any _ _).mono ?_; rintro e w1 ⟨rfl, hb1⟩) | (go_at_call 5; refine (Bytes_bin _ _ _ _ (by decide)).mono ?_; rintro e w2 ⟨g, c, rfl, hcp⟩) | (go_at_call 6; refine (same_yes _ _ _ _ hl' hcp.cell).mono ?_; rintro e w3 ⟨rfl, n, rfl⟩))
    have hvb : w1.heap.size < w2.heap.size := by have := hcp.bel.size; simp at this; omega
    go_loopw [6] (fun i wr => ∃ k : Nat, k ≤ a0.size ∧ i = .int .i64 k ∧ Below (w1.heap.size + 1) w2 wr ∧ (∀ j, j < a0.size → ∃ x : Int, wr.cell? ⟨g, j, none⟩ = some (.int .u8 x)) ∧ (∀ j, j < a0.size → wr.frozen? ⟨g, j, none⟩ = false)) (fun i _ => a0.size - (intOf i).toNat)
    case atStart =>
      go_light
      exact ⟨0, Nat.zero_le _, rfl, below_drewN (Below.refl _ _) _, fun j hj => ⟨_, hcp.cell j hj⟩, fun j hj => hcp.free j hj⟩
    case round =>
      obtain ⟨k, hk, rfl, hb, hcl, hfr⟩ := hrel
      have hg : w1.heap.size + 1 ≤ g := by have := hcp.lo; simp at this; omega
      by_cases hlt : k < a0.size
      · obtain ⟨x, hcx⟩ := hcl k hlt
        have hfx := hfr k hlt
        have hlt' : (k : Int) < (a0.size : Int) := by omega
        go_wp2
        go_roundw
        case rel =>
          go_light
          refine ⟨k + 1, by omega, by go_num, hb.setCell hg _, fun j hj => ?_, fun j hj => (World.frozen?_setCell _ _ _ _).trans (hfr j hj)⟩
          by_cases e : j = k
          · subst e
            exact ⟨_, World.cell?_setCell_same _ _ _ hcx⟩
          · obtain ⟨y, hy⟩ := hcl j hj
            exact ⟨y, by rw [World.cell?_setCell_other _ _ _ _ (by simp)]; exact hy⟩
        case measure => simp [intOf]; omega
      · have hold : ∀ o, wr.cell? ⟨w1.heap.size, o, none⟩ = (w1.alloc (Obj.cells #[Value.int IntKind.u64 6, Value.string a0, Value.int IntKind.i64 0] 24)).cell? ⟨w1.heap.size, o, none⟩ := fun o =>
          (hb.cell (p := ⟨w1.heap.size, o, none⟩) (by simp)).trans (hcp.bel.cell (p := ⟨w1.heap.size, o, none⟩) (by simp))
        have hc0 : wr.cell? ⟨w1.heap.size, 0, none⟩ = some (.int .u64 6) := (hold 0).trans (by go_simp)
        have hc1 : wr.cell? ⟨w1.heap.size, 1, none⟩ = some (.string a0) := (hold 1).trans (by go_simp)
        have hc2 : wr.cell? ⟨w1.heap.size, 2, none⟩ = some (.int .i64 0) := (hold 2).trans (by go_simp)
        have hlow : w.heap.size ≤ w1.heap.size := hb1.size
        have hbw : Below w.heap.size w wr := (hb1.trans (((Below.refl _ _).alloc (Nat.le_refl _) _).mono hlow)).trans ((hcp.bel.mono (by simp; omega)).trans (hb.mono (by omega)))
        clear hold hcl hfr
        go_wp2_with (first | (go_at_call 5; refine (Bytes_bin _ _ _ _ (by decide)).mono ?_; rintro e w4 ⟨g4, c4, rfl, hcp4⟩) | (go_at_call 6; refine (same_yes _ _ _ _ hl' hcp4.cell).mono ?_; rintro e w5 ⟨rfl, n5, rfl⟩))
        go_ret
        exact ⟨rfl, below_drewN (hbw.trans (hcp4.bel.mono hbw.size)) _⟩

set_option maxRecDepth 100000 in
theorem lifted (os : Os) (started : os.Started) (H : Type) (enc : TypeId × Value → H) :
    ReturnsInHanded {} Yba.checked os 4 .any (Rows.lawS2525CCopySpec.pre6 enc Yba.prog Yba.f4 Rows.lawS2525CCopyRow.domain false) (Rows.lawS2525CCopySpec.post enc Yba.prog Yba.f4 false true false false) := by
  refine returnsInHanded_of_change (C := Yba.checked) own started (by kernel_rfl) Yba.func4
    (ChangeSpec.witness6 (enc := enc) (C := Yba.checked) false ⟨#[], #[.string ByteArray.empty], []⟩ 8 (by kernel_rfl) (by kernel_rfl) (by kernel_rfl) (by kernel_rfl)) ?_
  intro W base args ds gs before hval0 hW hcnd _
  have hval : ∀ (j : Nat) t v, Yba.f4.params[j]? = some t → args[j]? = some v → Value.okWide Yba.prog W .any base t v := hval0
  have hW' := hW
  obtain ⟨p, q, hA0, hV, rfl, hfz, hnd⟩ := hW
  have hA : DataW.TrodAll enc Yba.prog W 0 (fun _ => true) true Yba.f4.params.toList args.toList ds p := hA0
  rw [Yba.params4] at hA hval
  obtain ⟨v0, vs0, d0, ds0, p0, q0, hargs, rfl, rfl, h0, r0⟩ := trodAll_cons hA
  obtain ⟨rfl, rfl, rfl⟩ := trodAll_nil r0
  obtain rfl : args = #[v0] := by cases args; simp_all
  obtain ⟨rfl, rfl⟩ := trodVars_none hV
  obtain ⟨a0, rfl, rfl, rfl, w0⟩ := open_string Yba.underlying9 (hval 0 9 v0 rfl rfl) h0
  clear hA0 hval0
  simp only [List.append_nil] at hW'
  refine (walk a0 w0 W).mono fun e W' ⟨he, hb⟩ => ?_
  subst he
  exact ⟨_, rfl, _, _, _, [], [], [], hW', trodAll_mk1 (shut_bool Yba.underlying4 _), trodAll_cons_mk (shut_string Yba.underlying9 w0) trodAll_mk0, rfl, hb.frame _, fun h => by cases h⟩

theorem over : Rows.lawS2525CCopyRow.holds Yba.pinned (OpenSpec.ofChange Rows.lawS2525CCopySpec) :=
  OpenClaim.holds_of_wide 4 Yba.f4 rfl rfl rfl rfl rfl rfl rfl ⟨rfl, rfl, rfl, rfl, rfl⟩ rfl rfl rfl rfl rfl (by kernel_rfl) Yba.func4 (by kernel_rfl)
    (of_decide_eq_true (by kernel_rfl)) (by unfold Func.isWrapper; first | (rw [if_pos (by decide +kernel)]; kernel_rfl) | (rw [if_neg (by decide +kernel)]; exact ⟨rfl, rfl⟩))
    (fun os started H enc _ => lifted os started H enc)

/-- THE STATEMENT -/
theorem proved : Rows.LawS2525CCopySaid :=
  over
end Go.Proofs.Ybulkazgq.lawS2525CCopy
