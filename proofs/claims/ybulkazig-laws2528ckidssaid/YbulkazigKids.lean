/-
  Seat b2528a: the walk of LawS2528CKids.
-/
import Derived.Test.YbulkazigFolder
import Derived.Test.YbulkazigOpen
import Derived.LaidEqlPtr
namespace Go.Proofs.Ybulkazig
open Go.ChangeShapes Go.WideShapes Go.ChangeAt Go.RowKit
set_option linter.unusedVariables false
set_option linter.unusedSimpArgs false

theorem kids_big (ao : Option Addr) (n cap : Nat) (w : World) (hn : 1024 < n) (hm : n ≤ maxLen) :
    Calls Yba.prog 3 #[.slice ao n cap] w fun e w' => e = .returned (.bool true) ∧ Below w.heap.size w w' := by
  unfold maxLen at hm
  have hn' : (1024 : Int) < (n : Int) := by omega
  go_enter Yba.func3, Yba.ntmps3
  go_wp2
  go_ret
  exact ⟨rfl, Below.refl _ _⟩

theorem info55 : ∃ j, Yba.prog.info? 55 = some j := by
  have h : (Yba.prog.info? 55).isSome = true := by kernel_rfl
  exact Option.isSome_iff_exists.1 h

theorem neq_same (a : Addr) (w : World) : (binOp .neq 23 (.pointer (some a)) (.pointer (some a))).run Yba.prog w = .ok (.bool false) w := by
  obtain ⟨j, hj⟩ := info55
  have h : ∀ d : Nat, (Op.equalIn (d + 1) 23 (.pointer (some a)) (.pointer (some a))).run Yba.prog w = .ok true w := fun d => by
    simp [Op.equalIn, run_underlying Yba.underlying23, sizeOf, typeInfo, hj, run_sameAddr_same]
  simp only [binOp]
  simp [Op.equal, Op.maxDepth, h 9999]

theorem neq_nilf (w : World) : (binOp .neq 30 .nilFunc .nilFunc).run Yba.prog w = .ok (.bool false) w := by kernel_rfl

theorem cEq_step (f : Nat → Nat) (i p : Nat) (h : 1 ≤ i) : cEq f i p = cEq f (i - 1) p + if f i = p then 1 else 0 := by
  obtain ⟨k, rfl⟩ : ∃ k, i = k + 1 := ⟨i - 1, by omega⟩
  rw [Nat.add_sub_cancel, cEq]

theorem no_child (E : Nat → Rw) (n m : Nat) (h : ∀ j, m < j → j ≤ n → par E j ≠ m) : ¬ 0 < cEq (par E) n m := by
  intro hp
  obtain ⟨i, h1, h2, h3⟩ := (cEq_pos (par E) m n).1 hp
  have := par_lt E i h1
  exact h i (by omega) h2 h3

/-- Behind build and newFolder: what the law reads. -/
structure Made (w W : World) (tb fb q fq kq isb n : Nat) (E : Nat → Rw) (ks : Nat → Int) : Prop where
  c0 : W.cell? ⟨fb, 0, none⟩ = some (.pointer (some ⟨tb, 0, none⟩))
  c2 : W.cell? ⟨fb, 2, none⟩ = some .nilFunc
  c3 : W.cell? ⟨fb, 3, none⟩ = some (.slice (some ⟨fq, 0, none⟩) (n + 2) (n + 3))
  c4 : W.cell? ⟨fb, 4, none⟩ = some (.slice (some ⟨kq, 0, none⟩) n n)
  c5 : W.cell? ⟨fb, 5, none⟩ = some (.slice (some ⟨isb, 0, none⟩) 0 (items (par E) (fun t => (E t).2) n n))
  fst : ∀ j, j < n + 3 → W.cell? ⟨fq, j, none⟩ = some (.int .i32 (cLt (par E) n j : Int))
  kid : ∀ i, 1 ≤ i → i ≤ n → W.cell? ⟨kq, pos (par E) n i, none⟩ = some (.int .i32 (i : Int))
  pars : ∀ j, 1 ≤ j → j ≤ n → W.cell? ⟨q, j, none⟩ = some (.int .i64 (par E j : Int))
  bel : Below w.heap.size w W

theorem made_of {w w1 W : World} {tb fb q n : Nat} {E : Nat → Rw} {tv : Value} (hB : Built w w1 tb q n n E) (hF : Folder w1 W tb fb n tv E) : ∃ fq kq isb ks, Made w W tb fb q fq kq isb n E ks := by
  obtain ⟨fq, kq, isb, ks, c3, c4, c5, hf, hk, hall⟩ := hF.rows
  refine ⟨fq, kq, isb, ks, hF.c0, hF.c2, c3, c4, c5, fun j hj => hf.cell j hj, fun i h1 h2 => ?_, fun j h1 h2 => ?_, hB.bel.trans (hF.bel.mono hB.bel.size)⟩
  · rw [hk.cell _ (pos_lt (par E) h1 h2), hall i h1 h2]
  · have hp : RowI w1 w.heap.size 3 .i64 q (n + 1) (parV E n) := hB.pars
    have := hp.cell j (by omega)
    rw [hF.bel.cell (p := ⟨q, j, none⟩) hp.lt.2, this]
    unfold parV
    rw [if_neg (by omega), if_pos h2]

set_option maxRecDepth 100000 in
set_option maxHeartbeats 2000000 in
theorem kids_walk (ao : Option Addr) (n cap : Nat) (E : Nat → Rw) (w : World) (hn : n ≤ 1024)
    (hB : Calls Yba.prog 5 #[.slice ao n cap] w fun e w' => ∃ tb q, e = .returned (.tuple #[.pointer (some ⟨tb, 0, none⟩), .slice (some ⟨q, 0, none⟩) (n + 1) (n + 1)]) ∧ Built w w' tb q n n E)
    (hself : 0 < n → ∃ b off, ao = some ⟨b, off, none⟩ ∧ b < w.heap.size ∧ ∀ i, i < n → w.cell? ⟨b, off + i * 2 + 1, none⟩ = some (.int .i64 (E i).2)) :
    Calls Yba.prog 3 #[.slice ao n cap] w fun e w' => e = .returned (.bool true) ∧ Below w.heap.size w w' := by
  have hn' : (n : Int) ≤ 1024 := by omega
  have HSELF := Hid.mk hself
  clear hself
  go_enter Yba.func3, Yba.ntmps3
  go_wp2_with (go_at_call 5; refine hB.mono ?_; rintro e w1 ⟨tb, q, rfl, hBt⟩)
  obtain ⟨ob, oc, gb, nc, hN, _, _, _⟩ := hBt.tree
  refine (folder_any hN hn .nilFunc (.inl rfl)).mono ?_
  rintro e W ⟨fb, rfl, hFo⟩
  obtain ⟨fq, kq, isb, ks, hM⟩ := made_of hBt hFo
  have c0 := hM.c0
  have c2 := hM.c2
  have c3 := hM.c3
  have c4 := hM.c4
  have c5 := hM.c5
  have hil := items_le (par E) (fun t => (E t).2) n n
  clear hN hBt hFo hB
  have hq1 := neq_same
  have hq2 := neq_nilf
  go_wp2
  go_loop [7, 8] (fun kk pp => ∃ p : Nat, p ≤ n + 1 ∧ pp = .int .i64 p ∧ kk = .int .i64 (cLt (par E) n p : Nat)) (fun _ pp => n + 1 - (intOf pp).toNat)
  case atStart => exact ⟨0, by omega, rfl, by rw [cLt_zero]; rfl⟩
  case round =>
    obtain ⟨p, hp, rfl, rfl⟩ := hrel
    have hkl := cLt_le (par E) n p
    have hf := hM.fst p (by omega)
    by_cases hlt : p < n + 1
    · have hlt1 : (p : Int) < (n : Int) + 1 := by omega
      have hlt2 : (p : Int) < (n : Int) + 2 := by omega
      have hnx := cLt_succ (par E) n p
      have HNX := Hid.mk hnx
      clear hnx
      obtain ⟨cp, hcp⟩ : ∃ cp, cp = cLt (par E) n p := ⟨_, rfl⟩
      rw [← hcp] at hf hkl ⊢
      have HCP := Hid.mk hcp
      clear hcp
      go_wp2
      go_loop [7, 9] (fun kk ii => ∃ i : Nat, 1 ≤ i ∧ i ≤ n + 1 ∧ ii = .int .i64 i ∧ kk = .int .i64 ((cp + cEq (par E) (i - 1) p : Nat))) (fun _ ii => n + 1 - (intOf ii).toNat)
      case atStart => exact ⟨1, Nat.le_refl _, by omega, rfl, rfl⟩
      case round =>
        obtain ⟨i, hi1, hi2, rfl, rfl⟩ := hrel
        by_cases hi : i < n + 1
        · have hpr := hM.pars i hi1 (by omega)
          have hil1 : (i : Int) < (n : Int) + 1 := by omega
          have hst := cEq_step (par E) i p hi1
          have hce := cEq_le (par E) (i - 1) p
          by_cases he : par E i = p
          · have hkd := hM.kid i hi1 (by omega)
            have hps := pos_lt (par E) hi1 (show i ≤ n by omega)
            have epos : pos (par E) n i = cp + cEq (par E) (i - 1) p := by unfold pos; rw [he, HCP.out]
            rw [epos] at hkd hps
            rw [he] at hpr
            rw [if_pos he] at hst
            have HST := Hid.mk hst
            clear hst epos he
            generalize cEq (par E) (i - 1) p = ce at *
            have hps' : ((cp : Int) + (ce : Int)) < (n : Int) := by omega
            go_wp2
            go_round
            case rel => exact ⟨i + 1, by omega, by omega, by go_num, by rw [Nat.add_sub_cancel, HST.out]; go_num⟩
            case measure => simp [intOf]; omega
          · rw [if_neg he] at hst
            have HST := Hid.mk hst
            have hne : ((par E i : Int) == (p : Int)) = false := by simp; omega
            clear hst he
            generalize cEq (par E) (i - 1) p = ce at *
            generalize par E i = pi at *
            go_wp2
            go_round
            case rel => exact ⟨i + 1, by omega, by omega, by go_num, by rw [Nat.add_sub_cancel, HST.out]; go_num⟩
            case measure => simp [intOf]; omega
        · obtain rfl : i = n + 1 := by omega
          go_wp2
          go_round
          case rel => exact ⟨p + 1, by omega, by go_num, by rw [HNX.out, ← HCP.out, Nat.add_sub_cancel]⟩
          case measure => simp [intOf]; omega
    · obtain rfl : p = n + 1 := by omega
      go_wp2
      go_loop [10, 11] (fun ww ii => ∃ r : Nat, r ≤ n ∧ ii = .int .i64 ((r : Int) + 1) ∧ ww = .int .i64 (items (par E) (fun t => (E t).2) n r : Nat)) (fun _ ii => n + 1 - (intOf ii).toNat)
      case atStart => exact ⟨0, by omega, rfl, rfl⟩
      case round =>
        obtain ⟨r, hr, rfl, rfl⟩ := hrel
        have hil2 := items_le (par E) (fun t => (E t).2) n r
        by_cases hlt : r < n
        · obtain ⟨b, off, rfl, hbw, hs⟩ := HSELF.out (by omega)
          have hsv := (hM.bel.cell (p := ⟨b, off + r * 2 + 1, none⟩) hbw).trans (hs r hlt)
          have hlt1 : (r : Int) + 1 < (n : Int) + 1 := by omega
          have hlt0 : (r : Int) < (n : Int) := by omega
          have hit := items_step E n (r + 1) (by omega)
          rw [Nat.add_sub_cancel] at hit
          have HIT0 := Hid.mk hit
          clear hit hs
          obtain ⟨it, hit⟩ : ∃ it, it = items (par E) (fun t => (E t).2) n r := ⟨_, rfl⟩
          have HIT : Hid (items (par E) (fun t => (E t).2) n (r + 1) = it + (if 0 < (E r).2 then 1 else 0) + if 0 < cEq (par E) n (r + 1) then 1 else 0) := by rw [hit]; exact HIT0.out
          rw [← hit] at hil2 ⊢
          clear hit HIT0
          by_cases hp : 0 < (E r).2
          · have HY : Hid (items (par E) (fun t => (E t).2) n (r + 1) = it + 1 + if 0 < cEq (par E) n (r + 1) then 1 else 0) := by
              have h := HIT.out
              rw [if_pos hp] at h
              exact h
            generalize (E r).2 = sv at *
            go_wp2
            go_loop [12, 13] (fun hh jj => hh = .bool false ∧ ∃ j : Nat, r + 2 ≤ j ∧ j ≤ n + 1 ∧ jj = .int .i64 j ∧ ∀ j', r + 1 < j' → j' < j → par E j' ≠ r + 1) (fun _ jj => n + 1 - (intOf jj).toNat)
            case atStart => exact ⟨rfl, r + 2, Nat.le_refl _, by omega, by go_num, fun j' a b => by omega⟩
            case round =>
              obtain ⟨rfl, j, hj1, hj2, rfl, hno⟩ := hrel
              have HNO := Hid.mk hno
              clear hno
              by_cases hj : j < n + 1
              · have hpr := hM.pars j (by omega) (by omega)
                have hjl : (j : Int) < (n : Int) + 1 := by omega
                by_cases he : par E j = r + 1
                · have HC : Hid (items (par E) (fun t => (E t).2) n (r + 1) = it + 1 + 1) := by
                    have h := HY.out
                    rw [if_pos ((cEq_pos (par E) (r + 1) n).2 ⟨j, by omega, by omega, he⟩)] at h
                    exact h
                  rw [he] at hpr
                  clear he
                  go_wp2
                  go_round
                  case rel => exact ⟨r + 1, by omega, by go_num, by rw [HC.out]; go_num⟩
                  case measure => simp [intOf]; omega
                · have hne : ((par E j : Int) == (r : Int) + 1) = false := by simp; omega
                  have HE := Hid.mk he
                  clear he
                  generalize hpj : par E j = pj at *
                  have HPJ := Hid.mk hpj
                  clear hpj
                  go_wp2
                  go_round
                  case rel =>
                    go_light
                    refine ⟨rfl, j + 1, by omega, by omega, by go_num, fun j' a b => ?_⟩
                    by_cases e : j' = j
                    · subst e; rw [HPJ.out]; exact HE.out
                    · exact HNO.out j' a (by omega)
                  case measure => simp [intOf]; omega
              · have HC : Hid (items (par E) (fun t => (E t).2) n (r + 1) = it + 1) := by
                  have h := HY.out
                  rw [if_neg (fun x => no_child E n (r + 1) (fun j' a b => HNO.out j' a (by omega)) x)] at h
                  exact h
                go_wp2
                go_round
                case rel => exact ⟨r + 1, by omega, by go_num, by rw [HC.out]; go_num⟩
                case measure => simp [intOf]; omega
          · have HY : Hid (items (par E) (fun t => (E t).2) n (r + 1) = it + 0 + if 0 < cEq (par E) n (r + 1) then 1 else 0) := by
              have h := HIT.out
              rw [if_neg hp] at h
              exact h
            generalize (E r).2 = sv at *
            go_wp2
            go_loop [12, 13] (fun hh jj => hh = .bool false ∧ ∃ j : Nat, r + 2 ≤ j ∧ j ≤ n + 1 ∧ jj = .int .i64 j ∧ ∀ j', r + 1 < j' → j' < j → par E j' ≠ r + 1) (fun _ jj => n + 1 - (intOf jj).toNat)
            case atStart => exact ⟨rfl, r + 2, Nat.le_refl _, by omega, by go_num, fun j' a b => by omega⟩
            case round =>
              obtain ⟨rfl, j, hj1, hj2, rfl, hno⟩ := hrel
              have HNO := Hid.mk hno
              clear hno
              by_cases hj : j < n + 1
              · have hpr := hM.pars j (by omega) (by omega)
                have hjl : (j : Int) < (n : Int) + 1 := by omega
                by_cases he : par E j = r + 1
                · have HC : Hid (items (par E) (fun t => (E t).2) n (r + 1) = it + 0 + 1) := by
                    have h := HY.out
                    rw [if_pos ((cEq_pos (par E) (r + 1) n).2 ⟨j, by omega, by omega, he⟩)] at h
                    exact h
                  rw [he] at hpr
                  clear he
                  go_wp2
                  go_round
                  case rel => exact ⟨r + 1, by omega, by go_num, by rw [HC.out]; go_num⟩
                  case measure => simp [intOf]; omega
                · have hne : ((par E j : Int) == (r : Int) + 1) = false := by simp; omega
                  have HE := Hid.mk he
                  clear he
                  generalize hpj : par E j = pj at *
                  have HPJ := Hid.mk hpj
                  clear hpj
                  go_wp2
                  go_round
                  case rel =>
                    go_light
                    refine ⟨rfl, j + 1, by omega, by omega, by go_num, fun j' a b => ?_⟩
                    by_cases e : j' = j
                    · subst e; rw [HPJ.out]; exact HE.out
                    · exact HNO.out j' a (by omega)
                  case measure => simp [intOf]; omega
              · have HC : Hid (items (par E) (fun t => (E t).2) n (r + 1) = it + 0) := by
                  have h := HY.out
                  rw [if_neg (fun x => no_child E n (r + 1) (fun j' a b => HNO.out j' a (by omega)) x)] at h
                  exact h
                go_wp2
                go_round
                case rel => exact ⟨r + 1, by omega, by go_num, by rw [HC.out]; go_num⟩
                case measure => simp [intOf]; omega
        · obtain rfl : r = n := by omega
          go_wp2
          go_ret
          exact ⟨rfl, hM.bel⟩

end Go.Proofs.Ybulkazig
