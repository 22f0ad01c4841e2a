/-
  Seat b2526a: the plain law: shortcuts as data, the comparison's value, and that it is a strict total order.
-/
import Derived.Sort.Statements
namespace Go.Proofs.Ybulkazhe

/-- A shortcut as zzs2526abuild makes one: peer, tries - 1, successes, joined. -/
abbrev Ent := Int × Fin 1000 × Fin 1001 × Nat

def pe (x : Ent) : Int := x.1
def tr (x : Ent) : Int := (x.2.1.val : Int) + 1
def su (x : Ent) : Int := (x.2.2.1.val : Int)
def jo (x : Ent) : Int := (x.2.2.2 : Int)

theorem tr_bd (x : Ent) : 1 ≤ tr x ∧ tr x ≤ 1000 := by unfold tr; have := x.2.1.isLt; omega
theorem su_bd (x : Ent) : 0 ≤ su x ∧ su x ≤ 1000 := by unfold su; have := x.2.2.1.isLt; omega

/-- What the closure of sort hands back. -/
def cmpI (t1 s1 j1 t2 s2 j2 : Int) : Int :=
  if s2 * t1 - s1 * t2 ≠ 0 then s2 * t1 - s1 * t2 else if j1 < j2 then -1 else if j2 < j1 then 1 else 0

def cfE (x y : Ent) : Int := cmpI (tr x) (su x) (jo x) (tr y) (su y) (jo y)

/-- 'before', as a proposition. -/
def bef (t1 s1 j1 t2 s2 j2 : Int) : Prop := s2 * t1 < s1 * t2 ∨ (s1 * t2 = s2 * t1 ∧ j1 < j2)

theorem cmpI_neg (t1 s1 j1 t2 s2 j2 : Int) : cmpI t1 s1 j1 t2 s2 j2 < 0 ↔ bef t1 s1 j1 t2 s2 j2 := by
  unfold cmpI bef
  generalize s2 * t1 = a
  generalize s1 * t2 = b
  by_cases h : a - b ≠ 0
  · rw [if_pos h]; omega
  · rw [if_neg h]
    by_cases h1 : j1 < j2
    · rw [if_pos h1]; omega
    · rw [if_neg h1]
      by_cases h2 : j2 < j1
      · rw [if_pos h2]; omega
      · rw [if_neg h2]; omega

theorem prod_bd (s t : Int) (hs : 0 ≤ s ∧ s ≤ 1000) (ht : 1 ≤ t ∧ t ≤ 1000) : 0 ≤ s * t ∧ s * t ≤ 1000000 := by
  have h1 := Int.mul_nonneg hs.1 (show (0 : Int) ≤ t by omega)
  have h2 : s * t ≤ 1000 * 1000 := Int.mul_le_mul hs.2 ht.2 (by omega) (by omega)
  omega

/-- Fractions s1/t1, s2/t2, s3/t3: 'at least' is transitive. -/
theorem frac_trans (s1 t1 s2 t2 s3 t3 : Int) (h1 : 0 < t1) (h2 : 0 < t2) (h3 : 0 < t3) (a : s2 * t1 ≤ s1 * t2) (b : s3 * t2 ≤ s2 * t3) : s3 * t1 ≤ s1 * t3 := by
  have a' : s2 * t1 * t3 ≤ s1 * t2 * t3 := Int.mul_le_mul_of_nonneg_right a (by omega)
  have b' : s3 * t2 * t1 ≤ s2 * t3 * t1 := Int.mul_le_mul_of_nonneg_right b (by omega)
  have e1 : s2 * t1 * t3 = s2 * t3 * t1 := by rw [Int.mul_assoc, Int.mul_comm t1, ← Int.mul_assoc]
  have e2 : s3 * t2 * t1 = s3 * t1 * t2 := by rw [Int.mul_assoc, Int.mul_comm t2, ← Int.mul_assoc]
  have e3 : s1 * t2 * t3 = s1 * t3 * t2 := by rw [Int.mul_assoc, Int.mul_comm t2, ← Int.mul_assoc]
  have c : s3 * t1 * t2 ≤ s1 * t3 * t2 := by omega
  exact Int.le_of_mul_le_mul_right c h2

theorem frac_trans_lt (s1 t1 s2 t2 s3 t3 : Int) (h1 : 0 < t1) (h2 : 0 < t2) (h3 : 0 < t3) (a : s2 * t1 < s1 * t2) (b : s3 * t2 ≤ s2 * t3) : s3 * t1 < s1 * t3 := by
  have a' : s2 * t1 * t3 < s1 * t2 * t3 := Int.mul_lt_mul_of_pos_right a h3
  have b' : s3 * t2 * t1 ≤ s2 * t3 * t1 := Int.mul_le_mul_of_nonneg_right b (by omega)
  have e1 : s2 * t1 * t3 = s2 * t3 * t1 := by rw [Int.mul_assoc, Int.mul_comm t1, ← Int.mul_assoc]
  have e2 : s3 * t2 * t1 = s3 * t1 * t2 := by rw [Int.mul_assoc, Int.mul_comm t2, ← Int.mul_assoc]
  have e3 : s1 * t2 * t3 = s1 * t3 * t2 := by rw [Int.mul_assoc, Int.mul_comm t2, ← Int.mul_assoc]
  have c : s3 * t1 * t2 < s1 * t3 * t2 := by omega
  exact Int.lt_of_mul_lt_mul_right c (by omega)

theorem frac_trans_lt' (s1 t1 s2 t2 s3 t3 : Int) (h1 : 0 < t1) (h2 : 0 < t2) (h3 : 0 < t3) (a : s2 * t1 ≤ s1 * t2) (b : s3 * t2 < s2 * t3) : s3 * t1 < s1 * t3 := by
  have a' : s2 * t1 * t3 ≤ s1 * t2 * t3 := Int.mul_le_mul_of_nonneg_right a (by omega)
  have b' : s3 * t2 * t1 < s2 * t3 * t1 := Int.mul_lt_mul_of_pos_right b h1
  have e1 : s2 * t1 * t3 = s2 * t3 * t1 := by rw [Int.mul_assoc, Int.mul_comm t1, ← Int.mul_assoc]
  have e2 : s3 * t2 * t1 = s3 * t1 * t2 := by rw [Int.mul_assoc, Int.mul_comm t2, ← Int.mul_assoc]
  have e3 : s1 * t2 * t3 = s1 * t3 * t2 := by rw [Int.mul_assoc, Int.mul_comm t2, ← Int.mul_assoc]
  have c : s3 * t1 * t2 < s1 * t3 * t2 := by omega
  exact Int.lt_of_mul_lt_mul_right c (by omega)

def befE (x y : Ent) : Prop := bef (tr x) (su x) (jo x) (tr y) (su y) (jo y)

theorem befE_irrefl (x : Ent) : ¬ befE x x := by unfold befE bef; omega

theorem befE_trans (x y z : Ent) (h1 : befE x y) (h2 : befE y z) : befE x z := by
  have tx := tr_bd x; have ty := tr_bd y; have tz := tr_bd z
  unfold befE bef at *
  rcases h1 with h1 | ⟨h1, k1⟩ <;> rcases h2 with h2 | ⟨h2, k2⟩
  · exact .inl (frac_trans_lt _ _ _ _ _ _ (by omega) (by omega) (by omega) h1 (by omega))
  · exact .inl (frac_trans_lt _ _ _ _ _ _ (by omega) (by omega) (by omega) h1 (by omega))
  · exact .inl (frac_trans_lt' _ _ (su y) (tr y) _ _ (by omega) (by omega) (by omega) (by omega) h2)
  · have a := frac_trans (su x) (tr x) (su y) (tr y) (su z) (tr z) (by omega) (by omega) (by omega) (by omega) (by omega)
    have b := frac_trans (su z) (tr z) (su y) (tr y) (su x) (tr x) (by omega) (by omega) (by omega) (by omega) (by omega)
    exact .inr ⟨by omega, by omega⟩

/-- Of two, one is before the other, or they agree in rank and joined. -/
theorem befE_total (x y : Ent) (h1 : ¬ befE x y) (h2 : ¬ befE y x) : jo x = jo y := by
  unfold befE bef at *; omega

theorem befE_ntrans (x y z : Ent) (h1 : ¬ befE x y) (h2 : ¬ befE y z) : ¬ befE x z := by
  have tx := tr_bd x; have ty := tr_bd y; have tz := tr_bd z
  intro h3
  unfold befE bef at *
  have a1 : su x * tr y ≤ su y * tr x := by omega
  have a2 : su y * tr z ≤ su z * tr y := by omega
  have c := frac_trans (su z) (tr z) (su y) (tr y) (su x) (tr x) (by omega) (by omega) (by omega) a2 a1
  rcases h3 with h3 | ⟨h3, k3⟩
  · omega
  · by_cases e1 : su x * tr y < su y * tr x
    · have := frac_trans_lt' (su z) (tr z) (su y) (tr y) (su x) (tr x) (by omega) (by omega) (by omega) a2 e1
      omega
    · by_cases e2 : su y * tr z < su z * tr y
      · have := frac_trans_lt (su z) (tr z) (su y) (tr y) (su x) (tr x) (by omega) (by omega) (by omega) e2 a1
        omega
      · omega

end Go.Proofs.Ybulkazhe
