/-
  Seat b2525a: contracts of the callees of LawS2525CAnyHead and LawS2525CCopy.
-/
import Derived.Test.YbulkazgqRows
import Derived.WalkKit
import Derived.ProofKit
import Derived.OpenShut
import Derived.ShutString
import Derived.Laws.IdiomStrings
import Derived.Deep.QuietTactic
import Derived.BigQuiet
import Derived.WalkSpells
import Derived.WalkLawsBesides
import Derived.Outline
namespace Go.Proofs.Ybulkazgq
open Go.ChangeShapes Go.WideShapes Go.ChangeAt Go.RowKit

theorem bcell {W w1 : World} (hb : Below W.heap.size W w1) : (∀ b o, b < W.heap.size → w1.cell? ⟨b, o, none⟩ = W.cell? ⟨b, o, none⟩) ∧ (∀ b o, b < W.heap.size → w1.frozen? ⟨b, o, none⟩ = W.frozen? ⟨b, o, none⟩) :=
  ⟨fun b o h => hb.cell (p := ⟨b, o, none⟩) h, fun b o h => hb.frozen (p := ⟨b, o, none⟩) h⟩

/-- The kind of a value: the low byte of its head. -/
theorem kind_any (h : Int) (t : ByteArray) (n : Int) (w : World) :
    Calls Yba.prog 8 #[.agg #[.int .u64 h, .string t, .int .i64 n]] w fun e w' => e = .returned (.int .u8 (h % 256)) ∧ w' = w.alloc (.cells #[.int .u64 h, .string t, .int .i64 n] 24) := by
  go_enter Yba.func8, Yba.ntmps8
  go_wp2
  go_ret
  exact ⟨rfl, rfl⟩


/-- The bytes of a binary value: its text. -/
theorem bytes_bin (h : Int) (t : ByteArray) (n : Int) (w : World) (hk : h % 256 = 6) :
    Calls Yba.prog 9 #[.agg #[.int .u64 h, .string t, .int .i64 n]] w fun e w' => e = .returned (.string t) ∧ Below w.heap.size w w' := by
  go_enter Yba.func9, Yba.ntmps9
  go_wp2_with (go_at_call 8; refine (kind_any _ _ _ _).mono ?_; rintro e w' ⟨rfl, rfl⟩)
  go_ret
  exact ⟨rfl, ((Below.refl _ _).alloc (Nat.le_refl _) _).alloc (by simp) _⟩

/-- What Bytes hands back of a binary value: a new row that holds the text's bytes. -/
structure Copied (t : ByteArray) (w w' : World) (g : Nat) : Prop where
  bel : Below w.heap.size w w'
  lo : w.heap.size ≤ g
  hi : g < w'.heap.size
  cell : ∀ j (hj : j < t.size), w'.cell? ⟨g, j, none⟩ = some (.int .u8 (t[j].toNat : Int))
  free : ∀ j, j < t.size → w'.frozen? ⟨g, j, none⟩ = false

theorem copied_of (w w1 : World) (t : ByteArray) (c : Nat) (hb : Below w.heap.size w w1) :
    Copied t w ((w1.alloc (.cells (bytesRow t c) 5 ((bytesRow t c).size, (bytesRow t c).size + 1))).drew) w1.heap.size := {
  bel := (hb.alloc hb.size _).drew
  lo := hb.size
  hi := by show _ < ((w1.alloc _).heap).size; simp
  cell := fun j hj => by
    show (w1.alloc _).cell? _ = _
    rw [World.cell?_alloc_mark, bytesRow_at t c j hj]
    rfl
  free := fun j hj => by
    show (w1.alloc _).frozen? _ = _
    rw [World.frozen?_alloc_mark]
    have : t.size ≤ (bytesRow t c).size := by simp [bytesRow]
    simp
    omega }

theorem Bytes_bin (h : Int) (t : ByteArray) (n : Int) (w : World) (hk : h % 256 = 6) :
    Calls Yba.prog 5 #[.agg #[.int .u64 h, .string t, .int .i64 n]] w fun e w' => ∃ g c, e = .returned (.tuple #[.slice (some ⟨g, 0, none⟩) t.size c, .bool true]) ∧ Copied t w w' g := by
  have hconv := fun wx => run_bytes_of_string (P := Yba.prog) wx 9 25 5 t Yba.underlying9 Yba.underlying25 Yba.underlying5
  go_enter Yba.func5, Yba.ntmps5
  go_wp2_with (first | (go_at_call 8; refine (kind_any _ _ _ _).mono ?_; rintro e w' ⟨rfl, rfl⟩) | (go_at_call 9; refine (bytes_bin _ _ _ _ hk).mono ?_; rintro e w' ⟨rfl, hb⟩))
  go_ret2
  exact ⟨_, _, rfl, copied_of _ _ _ _ ((((Below.refl _ _).alloc (Nat.le_refl _) _).alloc (by simp) _).trans (hb.mono (by simp; omega)))⟩

theorem Bytes_not (h : Int) (t : ByteArray) (n : Int) (w : World) (hk : ¬ h % 256 = 6) :
    Calls Yba.prog 5 #[.agg #[.int .u64 h, .string t, .int .i64 n]] w fun e w' => e = .returned (.tuple #[.slice none 0 0, .bool false]) ∧ Below w.heap.size w w' := by
  go_enter Yba.func5, Yba.ntmps5
  go_wp2_with (go_at_call 8; refine (kind_any _ _ _ _).mono ?_; rintro e w' ⟨rfl, rfl⟩)
  go_ret2
  exact ⟨rfl, ((Below.refl _ _).alloc (Nat.le_refl _) _).alloc (by simp) _⟩

/-- The comparison answers true where the slice holds the string's bytes. -/
theorem same_yes (g c : Nat) (s : ByteArray) (w : World) (hs : s.size ≤ 4096) (hc : ∀ j (hj : j < s.size), w.cell? ⟨g, j, none⟩ = some (.int .u8 (s[j].toNat : Int))) :
    Calls Yba.prog 6 #[.slice (some ⟨g, 0, none⟩) s.size c, .string s] w fun e w' => e = .returned (.bool true) ∧ ∃ n, w' = w.drewN n := by
  go_enter Yba.func6, Yba.ntmps6
  go_wp2
  go_loopw [5] (fun i wr => ∃ k : Nat, k ≤ s.size ∧ i = .int .i64 k ∧ ∃ n, wr = w.drewN n) (fun i _ => s.size - (intOf i).toNat)
  case atStart => exact ⟨0, Nat.zero_le _, rfl, 0, rfl⟩
  case round =>
    obtain ⟨k, hk, rfl, n, rfl⟩ := hrel
    by_cases hlt : k < s.size
    · have hck := hc k hlt
      have hlt' : (k : Int) < (s.size : Int) := by omega
      go_wp2
      go_quiet (fail)
      go_wp2
      go_roundw
      case rel => exact ⟨k + 1, by omega, by go_num, _, rfl⟩
      case measure => simp [intOf]; omega
    · go_wp2
      go_ret
      exact ⟨rfl, n, rfl⟩

end Go.Proofs.Ybulkazgq
