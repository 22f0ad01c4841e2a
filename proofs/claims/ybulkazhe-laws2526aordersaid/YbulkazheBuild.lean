/-
  Seat b2526a: the contract of zzs2526abuild.
-/
import Derived.Test.YbulkazheWalks
import Derived.Deep.Cut
namespace Go.Proofs.Ybulkazhe
open Go.ChangeShapes Go.WideShapes Go.ChangeAt Go.RowKit Go.Sort
set_option linter.unusedVariables false

theorem Yba.info29 : (Yba.prog.info? 29).map (fun i => (i.zero, i.size, i.bytes)) = some (some (.agg #[.int .i64 0, .int .i64 0, .int .i64 0, .int .u64 0]), 4, 32) := by kernel_rfl
theorem Yba.info3 : (Yba.prog.info? 3).map (fun i => (i.zero, i.size, i.bytes)) = some (some (.int .i64 0), 1, 8) := by kernel_rfl

/-- The i-th entry that came in: peer, tries, successes, joined. -/
abbrev Raw := Int × Int × Int × Int

def RawAt (w : World) (b off : Nat) (x : Raw) : Prop :=
  w.cell? ⟨b, off, none⟩ = some (.int .i64 x.1) ∧ w.cell? ⟨b, off + 1, none⟩ = some (.int .u16 x.2.1) ∧ w.cell? ⟨b, off + 2, none⟩ = some (.int .u16 x.2.2.1) ∧ w.cell? ⟨b, off + 3, none⟩ = some (.int .u8 x.2.2.2)

def RawOk (x : Raw) : Prop := 0 ≤ x.2.1 ∧ x.2.1 ≤ 65535 ∧ 0 ≤ x.2.2.1 ∧ x.2.2.1 ≤ 65535 ∧ 0 ≤ x.2.2.2 ∧ x.2.2.2 ≤ 255

def ent (x : Raw) (i : Nat) : Ent := (x.1, ⟨x.2.1.toNat % 1000, by omega⟩, ⟨x.2.2.1.toNat % (x.2.1.toNat % 1000 + 2), by have := Nat.mod_lt x.2.2.1.toNat (show 0 < x.2.1.toNat % 1000 + 2 by omega); omega⟩, x.2.2.2.toNat * 65536 + i)

def encE (x : Ent) : List Value := [.int .i64 (pe x), .int .i64 (tr x), .int .i64 (su x), .int .u64 (jo x)]

/-- The cells of the first k entries. -/
def cellsTo (E : Nat → Raw) : Nat → List Value
  | 0 => []
  | k + 1 => cellsTo E k ++ encE (ent (E k) k)

theorem or_join (x : Int) (k : Nat) (h0 : 0 ≤ x) (h1 : x ≤ 255) (hk : k < 65536) : bits BinOp.or IntKind.u64 (x * 65536) (k : Int) = ((x.toNat * 65536 + k : Nat) : Int) := by
  obtain ⟨m, rfl⟩ : ∃ m : Nat, x = (m : Int) := ⟨x.toNat, by omega⟩
  have e : ((m : Int) * 65536) = ((m * 65536 : Nat) : Int) := by omega
  rw [e, bits_or_u64_nat _ _ (by omega) (by omega)]
  have h := Nat.shiftLeft_add_eq_or_of_lt (a := m) (b := k) (i := 16) (by omega)
  rw [Nat.shiftLeft_eq] at h
  have e2 : (2 : Nat) ^ 16 = 65536 := by decide
  rw [e2] at h
  rw [← h]
  rfl

theorem news_eq (x0 x1 x2 x3 : Int) (k : Nat) (hk : k < 65536) (o1 : 0 ≤ x1) (o3 : 0 ≤ x2) (o5 : 0 ≤ x3) (o6 : x3 ≤ 255) :
    [Value.int .i64 x0, .int .i64 (1 + x1 % 1000), .int .i64 (x2 % (1 + x1 % 1000 + 1)), .int .u64 (bits BinOp.or IntKind.u64 (x3 * 65536) (k : Int))] = encE (ent (x0, x1, x2, x3) k) := by
  have e1 : tr (ent (x0, x1, x2, x3) k) = 1 + x1 % 1000 := by
    show (((x1.toNat % 1000 : Nat)) : Int) + 1 = _
    omega
  have e2 : su (ent (x0, x1, x2, x3) k) = x2 % (1 + x1 % 1000 + 1) := by
    show (((x2.toNat % (x1.toNat % 1000 + 2) : Nat)) : Int) = _
    rw [Int.natCast_emod]
    have a1 : ((x2.toNat : Nat) : Int) = x2 := by omega
    have a2 : (((x1.toNat % 1000 + 2 : Nat)) : Int) = 1 + x1 % 1000 + 1 := by omega
    rw [a1, a2]
  have e3 : jo (ent (x0, x1, x2, x3) k) = bits BinOp.or IntKind.u64 (x3 * 65536) (k : Int) := by
    rw [or_join x3 k o5 o6 hk]; rfl
  unfold encE
  rw [e1, e2, e3]
  rfl

theorem cells_new4 (W : World) (a b c d : Value) (t : TypeId) (g : Nat) (hg : g = W.heap.size) : ∀ j u, [a, b, c, d][j]? = some u → (W.alloc (.cells #[a, b, c, d] t)).cell? ((⟨g, 0, none⟩ : Addr).add j) = some u := by
  intro j u hu
  subst hg
  rw [Addr.add_lit, Nat.zero_add]
  have : (W.alloc (.cells #[a, b, c, d] t)).heap[W.heap.size]? = some (.cells #[a, b, c, d] t) := heap_alloc_new W _
  unfold World.cell?
  rw [this]
  simpa using hu

set_option maxRecDepth 100000 in
set_option maxHeartbeats 1000000 in
theorem build_some (b off n cap : Nat) (E : Nat → Raw) (w : World) (hn : n ≤ 256) (hb : b < w.heap.size) (hE : ∀ i, i < n → RawAt w b (off + i * 4) (E i)) (hok : ∀ i, i < n → RawOk (E i)) :
    Calls Yba.prog 5 #[.slice (some ⟨b, off, none⟩) n cap] w fun e w' => ∃ g, e = .returned (.slice (some ⟨g, 0, none⟩) n n) ∧ w'.ownsRow w.heap.size 29 4 (.slice (some ⟨g, 0, none⟩) n n) n (cellsTo E n) ∧ Below w.heap.size w w' := by
  obtain ⟨i0, hi, hz0, hz1, hz2⟩ := info_parts Yba.info29
  have hbn : i0.bytes * n ≤ 281474976710656 := by rw [hz2]; omega
  have hbm : n ≤ maxLen := by unfold maxLen; omega
  go_enter Yba.func5, Yba.ntmps5
  go_wp2_with (at_make; refine wpList_make_own _ rfl _ _ 25 rfl w.heap.size 29 i0 _ 4 Yba.underlying25 hi hz0 hz1 _ _ _ n rfl rfl rfl hbn hbm (Nat.le_refl _) ?_; intro w1 hown1 hg1)
  have hb1 : Below w.heap.size w w1 := (Below.refl _ _).grown hg1 (Nat.le_refl _) (by simp)
  go_loopw [3, 13] (fun v i wr => ∃ k : Nat, k ≤ n ∧ i = .int .i64 k ∧ v = .slice (some ⟨w.heap.size, 0, none⟩) k n ∧ wr.ownsRow w.heap.size 29 4 (.slice (some ⟨w.heap.size, 0, none⟩) k n) k (cellsTo E k) ∧ Below w.heap.size w wr) (fun _ i _ => n - (intOf i).toNat)
  case atStart => exact ⟨0, Nat.zero_le _, rfl, rfl, hown1, hb1⟩
  case round =>
    obtain ⟨k, hk, rfl, rfl, hown, hbel⟩ := hrel
    by_cases hlt : k < n
    · obtain ⟨c0, c1, c2, c3⟩ := hE k hlt
      have hcel := fun o => hbel.cell (p := ⟨b, o, none⟩) hb
      rw [← hcel] at c0 c1 c2 c3
      obtain ⟨o1, o2, o3, o4, o5, o6⟩ := hok k hlt
      have hlt' : (k : Int) < (n : Int) := by omega
      clear hcel
      clear hE hok
      generalize hx : E k = x at *
      obtain ⟨x0, x1, x2, x3⟩ := x
      have HX : Hid (E k = (x0, x1, x2, x3)) := hx
      clear hx
      simp only at c0 c1 c2 c3 o1 o2 o3 o4 o5 o6
      have hm0 : 0 ≤ x2 % (1 + x1 % 1000 + 1) := Int.emod_nonneg _ (by omega)
      have hm1 : x2 % (1 + x1 % 1000 + 1) < 1 + x1 % 1000 + 1 := Int.emod_lt_of_pos _ (by omega)
      go_wp2_with (at_builtin; refine wpList_append_fits _ rfl (.tmp 30) (.tmp 43) 25 rfl w.heap.size 29 i0 4 Yba.underlying25 hi hz1 w.heap.size k n (cellsTo E k) rfl ((hown.alloc _).alloc _) ⟨wr.heap.size + 1, 0, none⟩ 1 1 [.int .i64 x0, .int .i64 (1 + x1 % 1000), .int .i64 (x2 % (1 + x1 % 1000 + 1)), .int .u64 (bits BinOp.or IntKind.u64 (x3 * 65536) (k : Int))] rfl rfl (cells_new4 _ _ _ _ _ _ _ (by simp)) (by simp [Value.oneCell']) (by omega) ?_; intro w2 hown2 hg2)
      have hsz : w.heap.size ≤ wr.heap.size := hbel.size
      have hown' : w2.ownsRow w.heap.size 29 4 (.slice (some ⟨w.heap.size, 0, none⟩) (k + 1) n) (k + 1) (cellsTo E (k + 1)) := by
        rw [news_eq x0 x1 x2 x3 k (by omega) o1 o3 o5 o6, ← HX.out] at hown2
        exact hown2
      have hbel' : Below w.heap.size w w2 := (((hbel.alloc hsz _).alloc (by simp; omega) _)).grown hg2 (by simp; omega) (by simp)
      clear hown2 hg2 hown hbel
      go_wp2
      go_roundw
      case rel => exact ⟨k + 1, by omega, by go_num, rfl, hown', hbel'⟩
      case measure => simp [intOf]; omega
    · obtain rfl : k = n := by omega
      go_wp2
      go_ret
      exact ⟨_, rfl, hown, hbel⟩

theorem build_nil (ao : Option Addr) (c : Nat) (E : Nat → Raw) (w : World) :
    Calls Yba.prog 5 #[.slice ao 0 c] w fun e w' => ∃ g, e = .returned (.slice (some ⟨g, 0, none⟩) 0 0) ∧ w'.ownsRow w.heap.size 29 4 (.slice (some ⟨g, 0, none⟩) 0 0) 0 (cellsTo E 0) ∧ Below w.heap.size w w' := by
  obtain ⟨i0, hi, hz0, hz1, hz2⟩ := info_parts Yba.info29
  have hbn : i0.bytes * 0 ≤ 281474976710656 := by omega
  have hbm : 0 ≤ maxLen := by unfold maxLen; omega
  go_enter Yba.func5, Yba.ntmps5
  go_wp2_with (at_make; refine wpList_make_own _ rfl _ _ 25 rfl w.heap.size 29 i0 _ 4 Yba.underlying25 hi hz0 hz1 _ _ _ 0 rfl rfl rfl hbn hbm (Nat.le_refl _) ?_; intro w1 hown1 hg1)
  have hb1 : Below w.heap.size w w1 := (Below.refl _ _).grown hg1 (Nat.le_refl _) (by simp)
  go_loopw [3, 13] (fun v i wr => i = .int .i64 0 ∧ v = .slice (some ⟨w.heap.size, 0, none⟩) 0 0 ∧ wr = w1) (fun _ i _ => 0 - (intOf i).toNat)
  case atStart => exact ⟨rfl, rfl, rfl⟩
  case round =>
    obtain ⟨rfl, rfl, rfl⟩ := hrel
    go_wp2
    go_ret
    exact ⟨_, rfl, hown1, hb1⟩

end Go.Proofs.Ybulkazhe
