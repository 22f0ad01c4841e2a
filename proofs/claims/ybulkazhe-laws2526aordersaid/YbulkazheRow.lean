/-
  Seat b2526a: the row that zzs2526abuild lays, in the sort's words; what the sort leaves of it.
-/
import Derived.Test.YbulkazheBuild
import Derived.Shelf.GgSortFunc.InsertionK
namespace Go.Proofs.Ybulkazhe
open Go.ChangeShapes Go.WideShapes Go.ChangeAt Go.RowKit Go.Sort
set_option linter.unusedVariables false

/-- The entries as zzs2526abuild makes them. -/
def ents (E : Nat → Raw) (n : Nat) : Array Ent := (Array.range n).map fun i => ent (E i) i

theorem ents_size (E : Nat → Raw) (n : Nat) : (ents E n).size = n := by simp [ents]
theorem ents_get (E : Nat → Raw) (n i : Nat) (h : i < n) : (ents E n)[i]! = ent (E i) i := by simp [ents, h]

theorem encE_length (x : Ent) : (encE x).length = 4 := rfl
theorem encE_one (x : Ent) : ∀ v ∈ encE x, v.oneCell' = true := by
  intro v hv
  simp [encE] at hv
  rcases hv with rfl | rfl | rfl | rfl <;> rfl

theorem cellsTo_length (E : Nat → Raw) : ∀ n, (cellsTo E n).length = n * 4
  | 0 => rfl
  | n + 1 => by rw [cellsTo, List.length_append, cellsTo_length E n, encE_length]; omega

theorem cellsTo_get (E : Nat → Raw) : ∀ n t, t < n * 4 → (cellsTo E n)[t]? = some ((encE (ent (E (t / 4)) (t / 4)))[t % 4]!)
  | 0, t, h => by omega
  | n + 1, t, h => by
    rw [cellsTo]
    by_cases ht : t < n * 4
    · rw [List.getElem?_append_left (by rw [cellsTo_length]; exact ht)]
      exact cellsTo_get E n t ht
    · rw [List.getElem?_append_right (by rw [cellsTo_length]; omega), cellsTo_length]
      have e1 : t / 4 = n := by omega
      have e2 : t % 4 = t - n * 4 := by omega
      rw [e1, e2, getElem!_pos _ _ (by rw [encE_length]; omega)]
      exact List.getElem?_eq_getElem _

/-- What build leaves, in the sort's words. -/
theorem holds_built {w : World} {base g n : Nat} {E : Nat → Raw} (h : w.ownsRow base 29 4 (.slice (some ⟨g, 0, none⟩) n n) n (cellsTo E n)) : HoldsK encE 4 w g 0 (ents E n) ∧ g < w.heap.size ∧ base ≤ g := by
  rcases h.2 with ⟨h0, _⟩ | ⟨g', cap, cur, hv, hb, hh, h1, h2, h3, h4⟩
  · cases h0
  · simp only [Value.slice.injEq, Option.some.injEq, Addr.mk.injEq] at hv
    obtain ⟨⟨rfl, _, _⟩, _, rfl⟩ := hv
    refine ⟨?_, (Array.getElem?_eq_some_iff.1 hh).1, hb⟩
    intro j hj
    have hj' : j < n * 4 := by rw [size_flatK, ents_size] at hj; exact hj
    refine ⟨?_, by simp [World.frozen?, hh]⟩
    have hg : (flatK encE 4 (ents E n))[j]! = (encE (ents E n)[j / 4]!)[j % 4]! := get_flatK _ _ _ _ (by rw [ents_size]; exact hj')
    rw [hg, ents_get E n (j / 4) (by omega)]
    have hc := cellsTo_get E n j hj'
    rw [← h4, List.getElem?_take_of_lt hj'] at hc
    simp only [World.cell?, hh, Nat.zero_add]
    simp only [Option.isSome_none, Bool.false_eq_true, if_false]
    rw [← Array.getElem?_toList]
    exact hc

theorem grownBy_sortK (w : World) (g n : Nat) (os : Array Obj) (d : Array Ent) : w.grownBy (sortWorldK encE 4 w g 0 n d os) (some g) := by
  refine ⟨rfl, rfl, rfl, by simp [sortWorldK, putRowK], fun k hk hne => ?_⟩
  unfold sortWorldK putRowK
  rw [heap_grow_old _ _ (by simpa using hk)]
  have : g ≠ k := fun e => hne (by rw [e])
  simp [putRow, mapBlock, Sort.ahead, Array.getElem?_modify, this]

theorem holds_sortK {w : World} {g n : Nat} {os : Array Obj} {d0 d : Array Ent} (h : HoldsK encE 4 w g 0 d0) (hs : d.size = d0.size) (hg : g < w.heap.size) : HoldsK encE 4 (sortWorldK encE 4 w g 0 n d os) g 0 d := by
  unfold sortWorldK
  exact holdsK_grow encE 4 _ os g 0 d (by simpa [putRowK] using hg) (holdsK_putRowK encE 4 _ g 0 d0 d h hs)

/-! ### The joined numbers are distinct, before and behind the sort -/
theorem jo_ent (x : Raw) (i : Nat) : jo (ent x i) = ((x.2.2.2.toNat * 65536 + i : Nat) : Int) := rfl

theorem nodup_jo (E : Nat → Raw) (n : Nat) (hn : n ≤ 65536) : ((ents E n).toList.map jo).Nodup := by
  rw [List.nodup_iff_pairwise_ne, List.pairwise_iff_getElem]
  intro i j hi hj hij
  have hj' : j < n := by simpa [ents] using hj
  simp only [List.getElem_map, Array.getElem_toList, ents, Array.getElem_map, Array.getElem_range, jo_ent]
  intro h
  omega

theorem sorted_bef {E : Nat → Raw} {n : Nat} {lt : Ent → Ent → Bool} (hlt : ∀ x y, lt x y = true ↔ befE x y) (hn : n ≤ 65536) {d' : Array Ent} (hp : PermIn 0 (ents E n).size (ents E n) d') (hs : SortedIn lt 0 (ents E n).size d') :
    d'.size = n ∧ ∀ i, i + 1 < n → befE d'[i]! d'[i + 1]! := by
  have hsz : d'.size = n := by rw [hp.1, ents_size]
  refine ⟨hsz, fun i hi => ?_⟩
  rw [ents_size] at hs hp
  have h1 := hs i (i + 1) (Nat.zero_le _) (by omega) hi
  have hperm := hp.2.2
  have e1 : d'.extract 0 n = d' := by rw [← hsz]; simp
  have e2 : (ents E n).extract 0 n = ents E n := by conv => lhs; rw [← ents_size E n]
                                                    simp [ents]
  rw [e1, e2] at hperm
  have hnd : (d'.toList.map jo).Nodup := (hperm.map jo).nodup_iff.2 (nodup_jo E n hn)
  have hne : jo d'[i]! ≠ jo d'[i + 1]! := by
    rw [List.nodup_iff_pairwise_ne, List.pairwise_iff_getElem] at hnd
    have := hnd i (i + 1) (by simp; omega) (by simp; omega) (by omega)
    rw [getElem!_pos d' i (by omega), getElem!_pos d' (i + 1) (by omega)]
    simpa using this
  by_cases hb : befE d'[i]! d'[i + 1]!
  · exact hb
  · have h2 : ¬ befE d'[i + 1]! d'[i]! := fun h => by rw [(hlt _ _).2 h] at h1; cases h1
    exact absurd (befE_total _ _ hb h2) hne

end Go.Proofs.Ybulkazhe
