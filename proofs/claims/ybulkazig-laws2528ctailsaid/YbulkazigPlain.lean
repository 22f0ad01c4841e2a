/-
  Seat b2528a: the plain law of counting: children by parent.
-/
namespace Go.Proofs.Ybulkazig

/-- How many of 1 .. m have f below j. -/
def cLt (f : Nat → Nat) : Nat → Nat → Nat
  | 0, _ => 0
  | m + 1, j => cLt f m j + if f (m + 1) < j then 1 else 0

/-- How many of 1 .. m have f at p. -/
def cEq (f : Nat → Nat) : Nat → Nat → Nat
  | 0, _ => 0
  | m + 1, p => cEq f m p + if f (m + 1) = p then 1 else 0

theorem cLt_succ (f : Nat → Nat) : ∀ m p, cLt f m (p + 1) = cLt f m p + cEq f m p
  | 0, _ => rfl
  | m + 1, p => by
    rw [cLt, cLt, cEq, cLt_succ f m p]
    by_cases h1 : f (m + 1) < p
    · rw [if_pos h1, if_pos (by omega), if_neg (by omega)]; omega
    · by_cases h2 : f (m + 1) = p
      · rw [if_neg h1, if_pos (by omega), if_pos h2]; omega
      · rw [if_neg h1, if_neg (by omega), if_neg h2]; omega

theorem cLt_zero (f : Nat → Nat) : ∀ m, cLt f m 0 = 0
  | 0 => rfl
  | m + 1 => by rw [cLt, cLt_zero f m, if_neg (by omega)]

theorem cLt_mono (f : Nat → Nat) (m : Nat) {a b : Nat} (h : a ≤ b) : cLt f m a ≤ cLt f m b := by
  induction b with
  | zero => have : a = 0 := by omega
            subst this; exact Nat.le_refl _
  | succ b ih =>
    by_cases e : a = b + 1
    · subst e; exact Nat.le_refl _
    · have := ih (by omega)
      rw [cLt_succ]; omega

theorem cLt_le (f : Nat → Nat) : ∀ m j, cLt f m j ≤ m
  | 0, _ => Nat.le_refl _
  | m + 1, j => by
    have := cLt_le f m j
    rw [cLt]; split <;> omega

theorem cEq_le (f : Nat → Nat) : ∀ m p, cEq f m p ≤ m
  | 0, _ => Nat.le_refl _
  | m + 1, p => by
    have := cEq_le f m p
    rw [cEq]; split <;> omega

theorem cEq_mono (f : Nat → Nat) (p : Nat) {a b : Nat} (h : a ≤ b) : cEq f a p ≤ cEq f b p := by
  induction b with
  | zero => have : a = 0 := by omega
            subst this; exact Nat.le_refl _
  | succ b ih =>
    by_cases e : a = b + 1
    · subst e; exact Nat.le_refl _
    · have := ih (by omega)
      rw [cEq]; split <;> omega

/-- Where node i stands in kids. -/
def pos (f : Nat → Nat) (n i : Nat) : Nat := cLt f n (f i) + cEq f (i - 1) (f i)

theorem cEq_lt (f : Nat → Nat) {i m : Nat} (h1 : 1 ≤ i) (h2 : i ≤ m) : cEq f (i - 1) (f i) < cEq f m (f i) := by
  have h : cEq f i (f i) ≤ cEq f m (f i) := cEq_mono f (f i) h2
  obtain ⟨j, rfl⟩ : ∃ j, i = j + 1 := ⟨i - 1, by omega⟩
  rw [cEq, if_pos rfl] at h
  rw [Nat.add_sub_cancel]
  omega

theorem pos_lt_next (f : Nat → Nat) {n i : Nat} (h1 : 1 ≤ i) (h2 : i ≤ n) : pos f n i < cLt f n (f i + 1) := by
  have := cEq_lt f h1 h2
  unfold pos
  rw [cLt_succ]; omega

theorem pos_lt (f : Nat → Nat) {n i : Nat} (h1 : 1 ≤ i) (h2 : i ≤ n) : pos f n i < n :=
  Nat.lt_of_lt_of_le (pos_lt_next f h1 h2) (cLt_le f n _)

theorem pos_ne (f : Nat → Nat) {n i k : Nat} (h1 : 1 ≤ i) (h2 : i < k) (h3 : k ≤ n) : pos f n i ≠ pos f n k := by
  intro e
  rcases Nat.lt_trichotomy (f i) (f k) with h | h | h
  · have a := pos_lt_next f h1 (show i ≤ n by omega)
    have b := cLt_mono f n (show f i + 1 ≤ f k by omega)
    have c : cLt f n (f k) ≤ pos f n k := by unfold pos; omega
    omega
  · have a := cEq_lt f h1 (show i ≤ k - 1 by omega)
    unfold pos at e
    rw [h] at e a
    omega
  · have a := pos_lt_next f (show 1 ≤ k by omega) h3
    have b := cLt_mono f n (show f k + 1 ≤ f i by omega)
    have c : cLt f n (f i) ≤ pos f n i := by unfold pos; omega
    omega

theorem cLt_all (f : Nat → Nat) : ∀ m j, (∀ i, 1 ≤ i → i ≤ m → f i < j) → cLt f m j = m
  | 0, _, _ => rfl
  | m + 1, j, h => by
    rw [cLt, cLt_all f m j (fun i h1 h2 => h i h1 (by omega)), if_pos (h (m + 1) (by omega) (Nat.le_refl _))]

/-- Node p has a child among 1 .. m. -/
theorem cEq_pos (f : Nat → Nat) (p : Nat) : ∀ m, 0 < cEq f m p ↔ ∃ i, 1 ≤ i ∧ i ≤ m ∧ f i = p
  | 0 => by
    constructor
    · intro h; simp [cEq] at h
    · rintro ⟨i, h1, h2, _⟩; omega
  | m + 1 => by
    rw [cEq]
    constructor
    · intro h
      by_cases e : f (m + 1) = p
      · exact ⟨m + 1, by omega, Nat.le_refl _, e⟩
      · rw [if_neg e] at h
        obtain ⟨i, a, b, c⟩ := (cEq_pos f p m).1 h
        exact ⟨i, a, by omega, c⟩
    · rintro ⟨i, a, b, c⟩
      by_cases e : f (m + 1) = p
      · rw [if_pos e]; omega
      · have hi : i ≤ m := by
          by_cases e2 : i = m + 1
          · subst e2; exact absurd c e
          · omega
        have := (cEq_pos f p m).2 ⟨i, a, hi, c⟩
        omega

/-- The items: each of 1 .. k with a value of its own, and each with children. -/
def items (f : Nat → Nat) (s : Nat → Int) (n : Nat) : Nat → Nat
  | 0 => 0
  | k + 1 => items f s n k + (if 0 < s k then 1 else 0) + (if 0 < cEq f n (k + 1) then 1 else 0)

theorem items_le (f : Nat → Nat) (s : Nat → Int) (n : Nat) : ∀ k, items f s n k ≤ 2 * k
  | 0 => Nat.le_refl _
  | k + 1 => by
    have := items_le f s n k
    rw [items]; split <;> split <;> omega

/-- A function turned at one place. -/
def upd (g : Nat → Int) (j : Nat) (v : Int) : Nat → Int := fun t => if t = j then v else g t

/-! ### The four loops of newFolder -/
/-- first behind k rounds of the first loop. -/
def fs1 (f : Nat → Nat) (k j : Nat) : Int := if j < 2 then 0 else (cEq f k (j - 2) : Int)
theorem fs1_step (f : Nat → Nat) (k j : Nat) : upd (fs1 f k) (f (k + 1) + 2) (fs1 f k (f (k + 1) + 2) + 1) j = fs1 f (k + 1) j := by
  unfold upd fs1
  rw [cEq]
  by_cases h : j = f (k + 1) + 2
  · subst h
    rw [if_pos rfl, if_neg (by omega), if_neg (by omega), if_pos (by omega)]
    omega
  · rw [if_neg h]
    by_cases h2 : j < 2
    · rw [if_pos h2, if_pos h2]
    · rw [if_neg h2, if_neg h2, if_neg (by omega)]
      omega

/-- first in the second loop, ahead of place p. -/
def fs2 (f : Nat → Nat) (n p j : Nat) : Int := if j < p then (cLt f n (j - 1) : Int) else (cEq f n (j - 2) : Int)
theorem fs2_start (f : Nat → Nat) (n j : Nat) : fs1 f n j = fs2 f n 2 j := by
  unfold fs1 fs2
  by_cases h : j < 2
  · rw [if_pos h, if_pos h]
    have : j - 1 = 0 := by omega
    rw [this, cLt_zero]; rfl
  · rw [if_neg h, if_neg h]
theorem fs2_step (f : Nat → Nat) (n p j : Nat) (hp : 2 ≤ p) : upd (fs2 f n p) p (fs2 f n p p + fs2 f n p (p - 1)) j = fs2 f n (p + 1) j := by
  unfold upd fs2
  by_cases h : j = p
  · subst h
    rw [if_pos rfl, if_neg (by omega), if_pos (by omega), if_pos (by omega)]
    have e := cLt_succ f n (j - 2)
    have e2 : j - 2 + 1 = j - 1 := by omega
    have e3 : j - 1 - 1 = j - 2 := by omega
    rw [e2] at e
    rw [e, e3]
    omega
  · rw [if_neg h]
    by_cases h1 : j < p
    · rw [if_pos h1, if_pos (by omega)]
    · rw [if_neg h1, if_neg (by omega)]

/-- first behind k rounds of the third loop. -/
def fs3 (f : Nat → Nat) (n k j : Nat) : Int := if j = 0 then 0 else ((cLt f n (j - 1) + cEq f k (j - 1) : Nat) : Int)
theorem fs3_start (f : Nat → Nat) (n j m : Nat) (hj : j < m) : fs2 f n m j = fs3 f n 0 j := by
  unfold fs2 fs3
  rw [if_pos hj]
  by_cases h : j = 0
  · subst h; simp [cLt_zero]
  · rw [if_neg h, cEq]; rfl
theorem fs3_at (f : Nat → Nat) (n k : Nat) : fs3 f n k (f (k + 1) + 1) = (pos f n (k + 1) : Int) := by
  unfold fs3 pos
  rw [if_neg (by omega), Nat.add_sub_cancel, Nat.add_sub_cancel]
theorem fs3_step (f : Nat → Nat) (n k j : Nat) : upd (fs3 f n k) (f (k + 1) + 1) (fs3 f n k (f (k + 1) + 1) + 1) j = fs3 f n (k + 1) j := by
  unfold upd fs3
  rw [cEq]
  by_cases h : j = f (k + 1) + 1
  · subst h
    rw [if_pos rfl, if_neg (by omega), if_neg (by omega), if_pos (by omega)]
    omega
  · rw [if_neg h]
    by_cases h2 : j = 0
    · rw [if_pos h2, if_pos h2]
    · rw [if_neg h2, if_neg h2, if_neg (by omega)]
      rfl

/-- first at the end. -/
theorem fs3_end (f : Nat → Nat) (n j : Nat) : fs3 f n n j = (cLt f n j : Int) := by
  unfold fs3
  by_cases h : j = 0
  · subst h; simp [cLt_zero]
  · rw [if_neg h, ← cLt_succ]
    have : j - 1 + 1 = j := by omega
    rw [this]

theorem fs_child (f : Nat → Nat) (n i : Nat) : (cLt f n i : Int) < (cLt f n (i + 1) : Int) ↔ 0 < cEq f n i := by
  rw [cLt_succ]; omega

end Go.Proofs.Ybulkazig
