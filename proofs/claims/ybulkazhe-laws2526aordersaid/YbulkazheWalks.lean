/-
  Seat b2526a: contracts of the small callees of LawS2526AOrder.
-/
import Derived.Test.YbulkazheRows
import Derived.Test.YbulkazhePlain
import Derived.WalkKit
import Derived.ProofKit
import Derived.OpenShut
import Derived.Deep.QuietTactic
import Derived.BigQuiet
import Derived.WalkSpells
import Derived.WalkLawsBesides
import Derived.Outline
import Derived.Sort.Grow
import Derived.Deep.Light
namespace Go.Proofs.Ybulkazhe
open Go.ChangeShapes Go.WideShapes Go.ChangeAt Go.RowKit Go.Sort
set_option linter.unusedVariables false

def cmp3 (x y : Int) : Int := if x < y then -1 else if y < x then 1 else 0

theorem compare_any (x y : Int) (w : World) :
    Calls Yba.prog 12 #[.int .u64 x, .int .u64 y] w fun e w' => e = .returned (.int .i64 (cmp3 x y)) ∧ w' = w := by
  by_cases h1 : x < y
  · have e1 : cmp3 x y = -1 := by simp [cmp3, h1]
    rw [e1]
    go_enter Yba.func12, Yba.ntmps12
    go_wp2
    go_ret
    exact ⟨rfl, rfl⟩
  · by_cases h2 : y < x
    · have e1 : cmp3 x y = 1 := by simp [cmp3, h1, h2]
      rw [e1]
      go_enter Yba.func12, Yba.ntmps12
      go_wp2
      go_ret
      exact ⟨rfl, rfl⟩
    · have e1 : cmp3 x y = 0 := by simp [cmp3, h1, h2]
      rw [e1]
      go_enter Yba.func12, Yba.ntmps12
      go_wp2
      go_ret
      exact ⟨rfl, rfl⟩

theorem grow2 (W : World) (a b : Obj) : ∃ q os', (W.alloc a).alloc b = grow (W.drewN q) os' := ⟨0, _, by rw [alloc_eq_grow, alloc_eq_grow, grow_grow]; rfl⟩

/-- The closure of sort. -/
theorem closure11 (p1 t1 s1 j1 p2 t2 s2 j2 : Int) (b1 : 0 ≤ s2 * t1 ∧ s2 * t1 ≤ 1000000) (b2 : 0 ≤ s1 * t2 ∧ s1 * t2 ≤ 1000000) (W : World) :
    Calls Yba.prog 11 #[.agg #[.int .i64 p1, .int .i64 t1, .int .i64 s1, .int .u64 j1], .agg #[.int .i64 p2, .int .i64 t2, .int .i64 s2, .int .u64 j2]] W
      fun e w' => e = .returned (.int .i64 (cmpI t1 s1 j1 t2 s2 j2)) ∧ ∃ q os', w' = grow (W.drewN q) os' := by
  obtain ⟨b1a, b1b⟩ := b1
  obtain ⟨b2a, b2b⟩ := b2
  by_cases h : s2 * t1 - s1 * t2 = 0
  · have e1 : cmpI t1 s1 j1 t2 s2 j2 = cmp3 j1 j2 := by unfold cmpI cmp3; rw [if_neg (by omega)]
    rw [e1]
    go_enter Yba.func11, Yba.ntmps11
    go_wp2_with (go_at_call 12; refine (compare_any _ _ _).mono ?_; rintro e w' ⟨rfl, rfl⟩)
    go_ret
    exact ⟨rfl, grow2 _ _ _⟩
  · have e1 : cmpI t1 s1 j1 t2 s2 j2 = s2 * t1 - s1 * t2 := by unfold cmpI; rw [if_pos h]
    rw [e1]
    go_enter Yba.func11, Yba.ntmps11
    go_wp2
    go_ret
    exact ⟨rfl, grow2 _ _ _⟩

/-- 'before' answers true where it should. -/
theorem before_yes (p1 t1 s1 j1 p2 t2 s2 j2 : Int) (b1 : 0 ≤ s2 * t1 ∧ s2 * t1 ≤ 1000000) (b2 : 0 ≤ s1 * t2 ∧ s1 * t2 ≤ 1000000) (hb : bef t1 s1 j1 t2 s2 j2) (W : World) :
    Calls Yba.prog 6 #[.agg #[.int .i64 p1, .int .i64 t1, .int .i64 s1, .int .u64 j1], .agg #[.int .i64 p2, .int .i64 t2, .int .i64 s2, .int .u64 j2]] W
      fun e w' => e = .returned (.bool true) ∧ ∃ q os', w' = grow (W.drewN q) os' := by
  obtain ⟨b1a, b1b⟩ := b1
  obtain ⟨b2a, b2b⟩ := b2
  rcases hb with hb | ⟨he, hj⟩
  · have hne : ¬ s1 * t2 = s2 * t1 := by omega
    go_enter Yba.func6, Yba.ntmps6
    go_wp2
    go_ret
    exact ⟨rfl, grow2 _ _ _⟩
  · go_enter Yba.func6, Yba.ntmps6
    go_wp2
    go_ret
    exact ⟨rfl, grow2 _ _ _⟩

end Go.Proofs.Ybulkazhe
