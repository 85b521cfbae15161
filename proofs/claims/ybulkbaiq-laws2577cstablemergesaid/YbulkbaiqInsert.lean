/- slices.insertionSortCmpFunc (25). -/
import Derived.Test.YbulkbaiqSwap
namespace Go.Proofs.Ybulkbaiq
open Go.RowKit
set_option linter.unusedSimpArgs false
set_option linter.unusedVariables false

set_option maxRecDepth 100000 in
set_option maxHeartbeats 4000000 in
theorem insert_any (D0 : Row) (g a b N : Nat) (w : World) (hN : D0.length = N) (hb : Blk w g D0) (hab : a ≤ b) (hbN : b ≤ N) (hN2 : N ≤ 4096) :
    Calls Yba.prog 25 #[.slice (some ⟨g, 0, none⟩) N N, .int .i64 a, .int .i64 b, cf] w fun e w' => e = .returned (.tuple #[]) ∧ ∃ D, Blk w' g D ∧ Rearr D0 D a b ∧ Srt D a b ∧ w.grownBy w' (some g) := by
  have HN : Hid (D0.length = N) := hN
  clear hN
  go_enter Yba.func25, Yba.ntmps25
  go_wp2
  go_loopw [8] (fun vi wr => ∃ i : Nat, vi = .int .i64 i ∧ a + 1 ≤ i ∧ (i ≤ b ∨ i ≤ a + 1) ∧ ∃ D, Hid (D.length = N) ∧ Blk wr g D ∧ Hid (Rearr D0 D a b) ∧ Hid (Srt D a i) ∧ w.grownBy wr (some g)) (fun vi _ => b - (intOf vi).toNat)
  case atStart => exact ⟨a + 1, by go_num, Nat.le_refl _, .inr (Nat.le_refl _), D0, HN, hb, Rearr.refl _ _ _, fun p q h1 h2 h3 => by omega, World.grownBy.refl _ _⟩
  case round =>
    obtain ⟨i, rfl, hi1, hi2, D, HL, hB, HR, HS, hgr⟩ := hrel
    clear hb
    by_cases hib : i < b
    · clear hi2
      rename World => w1
      go_wp2
      go_loopw [9] (fun vj wr => ∃ j : Nat, vj = .int .i64 j ∧ a ≤ j ∧ j ≤ i ∧ ∃ D, Hid (D.length = N) ∧ Blk wr g D ∧ Hid (Rearr D0 D a b) ∧ Hid (Hole D a i j) ∧ w.grownBy wr (some g)) (fun vj _ => (intOf vj).toNat)
      case atStart => exact ⟨i, rfl, by omega, Nat.le_refl _, D, HL, hB, HR, hole_start HS.out, hgr⟩
      case round =>
        clear HL hB HR HS hgr D
        obtain ⟨j, rfl, hj1, hj2, D, HL, hB, HR, HO, hgr⟩ := hrel
        by_cases hja : a < j
        · obtain ⟨J, hJ⟩ : ∃ J : Nat, j = J + 1 := ⟨j - 1, by omega⟩
          have eJ : (j : Int) - 1 = (J : Int) := by omega
          have f1 : J < N := by omega
          have f2 : j < N := by omega
          have f3 : (J : Int) < (N : Int) := by omega
          have f4 : (j : Int) < (N : Int) := by omega
          have f5 : a ≤ J := by omega
          have wJ : IntKind.i64.wrap (J : Int) = (J : Int) := wrapS (by omega) (by omega)
          have hlj : j < D.length := by rw [HL.out]; exact f2
          have hlJ : J < D.length := by rw [HL.out]; exact f1
          have HJ := hid hJ
          clear hJ
          by_cases hk : ky D j < ky D J
          · have ec : cmpI (el D j).1 (el D J).1 < 0 := (cmpI_neg _ _).2 hk
            go_wp2
            refine wp_region_held_drew (S := fun w' => w'.rangeAt g (j * 33) (cellsE (el D j)) ∧ w'.rangeAt g (J * 33) (cellsE (el D J))) (by kernel_rfl) (by exact ⟨hB.range hlj, hB.range hlJ⟩) (fun hHeld => ?_)
            refine take_to 0 18 (.int .i64 (j : Int)) rfl rfl (by kernel_rfl) (by kernel_rfl) (by kernel_rfl) (fun _ _ _ h => h) (Or.inl ⟨by rfl, by intro w' hSw; go_simp⟩) (by first | trivial | assumption) ?_
            simp only [Act.put, List.setIfInBounds_toArray, List.set_cons_zero, List.set_cons_succ]
            refine take_to 1 19 (.int .i64 (a : Int)) rfl rfl (by kernel_rfl) (by kernel_rfl) (by kernel_rfl) (fun _ _ _ h => h) (Or.inl ⟨by rfl, by intro w' hSw; go_simp⟩) (by first | trivial | assumption) ?_
            simp only [Act.put, List.setIfInBounds_toArray, List.set_cons_zero, List.set_cons_succ]
            refine take_to 2 20 (.bool true) rfl rfl (by kernel_rfl) (by kernel_rfl) (by kernel_rfl) (fun _ _ _ h => h) (Or.inl ⟨by rfl, by intro w' hSw; go_simp⟩) (by first | trivial | assumption) ?_
            simp only [Act.put, List.setIfInBounds_toArray, List.set_cons_zero, List.set_cons_succ]
            refine take_to 3 21 (.bool true) rfl rfl (by kernel_rfl) (by kernel_rfl) (by kernel_rfl) (fun _ _ _ h => h) (Or.inl ⟨by rfl, by intro w' hSw; go_simp⟩) (by first | trivial | assumption) ?_
            simp only [Act.put, List.setIfInBounds_toArray, List.set_cons_zero, List.set_cons_succ]
            refine take_to 4 22 (cf) rfl rfl (by kernel_rfl) (by kernel_rfl) (by kernel_rfl) (fun _ _ _ h => h) (Or.inl ⟨by rfl, by intro w' hSw; go_simp⟩) (by first | trivial | assumption) ?_
            simp only [Act.put, List.setIfInBounds_toArray, List.set_cons_zero, List.set_cons_succ]
            refine take_to 5 23 (.slice (some ⟨g, 0, none⟩) N N) rfl rfl (by kernel_rfl) (by kernel_rfl) (by kernel_rfl) (fun _ _ _ h => h) (Or.inl ⟨by rfl, by intro w' hSw; go_simp⟩) (by first | trivial | assumption) ?_
            simp only [Act.put, List.setIfInBounds_toArray, List.set_cons_zero, List.set_cons_succ]
            refine take_to 6 24 (.int .i64 (j : Int)) rfl rfl (by kernel_rfl) (by kernel_rfl) (by kernel_rfl) (fun _ _ _ h => h) (Or.inl ⟨by rfl, by intro w' hSw; go_simp⟩) (by first | trivial | assumption) ?_
            simp only [Act.put, List.setIfInBounds_toArray, List.set_cons_zero, List.set_cons_succ]
            refine take_to 7 25 (.pointer (some ⟨g, j * 33, none⟩)) rfl rfl (by kernel_rfl) (by kernel_rfl) (by kernel_rfl) (fun _ _ _ h => h) (Or.inl ⟨by rfl, by intro w' hSw; go_simp⟩) (by first | trivial | assumption) ?_
            simp only [Act.put, List.setIfInBounds_toArray, List.set_cons_zero, List.set_cons_succ]
            refine take_to 8 26 (.agg (cellsE (el D j)).toArray) rfl rfl (by kernel_rfl) (by kernel_rfl) (by kernel_rfl) (fun _ _ _ h => h) (yieldsIf_load_mid (by rfl) _ _ rfl _ _ rfl _ _ (fun _ h => h.1) Yba.underlying68 rfl size68) (by first | trivial | assumption) ?_
            simp only [Act.put, List.setIfInBounds_toArray, List.set_cons_zero, List.set_cons_succ]
            refine take_to 9 27 (.slice (some ⟨g, 0, none⟩) N N) rfl rfl (by kernel_rfl) (by kernel_rfl) (by kernel_rfl) (fun _ _ _ h => h) (Or.inl ⟨by rfl, by intro w' hSw; go_simp⟩) (by first | trivial | assumption) ?_
            simp only [Act.put, List.setIfInBounds_toArray, List.set_cons_zero, List.set_cons_succ]
            refine take_to 10 28 (.int .i64 (j : Int)) rfl rfl (by kernel_rfl) (by kernel_rfl) (by kernel_rfl) (fun _ _ _ h => h) (Or.inl ⟨by rfl, by intro w' hSw; go_simp⟩) (by first | trivial | assumption) ?_
            simp only [Act.put, List.setIfInBounds_toArray, List.set_cons_zero, List.set_cons_succ]
            refine take_to 11 29 (.int .i64 (J : Int)) rfl rfl (by kernel_rfl) (by kernel_rfl) (by kernel_rfl) (fun _ _ _ h => h) (Or.inl ⟨by rfl, by intro w' hSw; go_simp⟩) (by first | trivial | assumption) ?_
            simp only [Act.put, List.setIfInBounds_toArray, List.set_cons_zero, List.set_cons_succ]
            refine take_to 12 30 (.pointer (some ⟨g, J * 33, none⟩)) rfl rfl (by kernel_rfl) (by kernel_rfl) (by kernel_rfl) (fun _ _ _ h => h) (Or.inl ⟨by rfl, by intro w' hSw; go_simp⟩) (by first | trivial | assumption) ?_
            simp only [Act.put, List.setIfInBounds_toArray, List.set_cons_zero, List.set_cons_succ]
            refine take_to 13 31 (.agg (cellsE (el D J)).toArray) rfl rfl (by kernel_rfl) (by kernel_rfl) (by kernel_rfl) (fun _ _ _ h => h) (yieldsIf_load_mid (by rfl) _ _ rfl _ _ rfl _ _ (fun _ h => h.2) Yba.underlying68 rfl size68) (by first | trivial | assumption) ?_
            simp only [Act.put, List.setIfInBounds_toArray, List.set_cons_zero, List.set_cons_succ]
            refine wpAnyH_ready (rs := [14]) (by kernel_rfl) (by simp) (AllReadyH.cons rfl (fun K hK => ?_) AllReadyH.nil)
            rw [if_pos (by rfl)]
            refine wp_less_to (.tmp 22) (.tmp 26) (.tmp 31) 32 (by rfl) (by rfl) (el D j) (el D J) (by rfl) (by rfl) (by rfl) ?_
            intro w2 hg2
            simp only [Act.put, List.setIfInBounds_toArray, List.set_cons_zero, List.set_cons_succ]
            refine hK.out _ _ (by exact ⟨(hB.drew.grow hg2 (by simp)).range hlj, (hB.drew.grow hg2 (by simp)).range hlJ⟩) (fun hHeld2 => ?_)
            clear hK K hHeld
            refine take_to 15 33 (.bool true) rfl rfl (by kernel_rfl) (by kernel_rfl) (by kernel_rfl) (fun _ _ _ h => h) (Or.inl ⟨by rfl, by intro w' hSw; go_simp⟩) (by first | trivial | assumption) ?_
            simp only [Act.put, List.setIfInBounds_toArray, List.set_cons_zero, List.set_cons_succ]
            refine take_to 16 34 (.bool true) rfl rfl (by kernel_rfl) (by kernel_rfl) (by kernel_rfl) (fun _ _ _ h => h) (Or.inl ⟨by rfl, by intro w' hSw; go_simp⟩) (by first | trivial | assumption) ?_
            simp only [Act.put, List.setIfInBounds_toArray, List.set_cons_zero, List.set_cons_succ]
            refine wpAnyH_done (by kernel_rfl) ?_ _
            have hB2 := hB.grow (grown_any (row := none) (World.grownBy.trans (grown_drew _ none) hg2)) (by simp)
            have hgr2 : w.grownBy w2 (some g) := hgr.trans (grown_any (World.grownBy.trans (grown_drew _ none) hg2))
            clear hHeld2 hg2
            go_wp2
            refine wp_region_held_drew (S := fun _ => True) (by kernel_rfl) trivial (fun hHeld => ?_)
            refine take_to 0 37 (.slice (some ⟨g, 0, none⟩) N N) rfl rfl (by kernel_rfl) (by kernel_rfl) (by kernel_rfl) (fun _ _ _ h => h) (Or.inl ⟨by rfl, by intro w' hSw; go_simp⟩) (by first | trivial | assumption) ?_
            simp only [Act.put, List.setIfInBounds_toArray, List.set_cons_zero, List.set_cons_succ]
            refine take_to 1 38 (.int .i64 (j : Int)) rfl rfl (by kernel_rfl) (by kernel_rfl) (by kernel_rfl) (fun _ _ _ h => h) (Or.inl ⟨by rfl, by intro w' hSw; go_simp⟩) (by first | trivial | assumption) ?_
            simp only [Act.put, List.setIfInBounds_toArray, List.set_cons_zero, List.set_cons_succ]
            refine take_to 2 39 (.slice (some ⟨g, 0, none⟩) N N) rfl rfl (by kernel_rfl) (by kernel_rfl) (by kernel_rfl) (fun _ _ _ h => h) (Or.inl ⟨by rfl, by intro w' hSw; go_simp⟩) (by first | trivial | assumption) ?_
            simp only [Act.put, List.setIfInBounds_toArray, List.set_cons_zero, List.set_cons_succ]
            refine take_to 3 40 (.int .i64 (j : Int)) rfl rfl (by kernel_rfl) (by kernel_rfl) (by kernel_rfl) (fun _ _ _ h => h) (Or.inl ⟨by rfl, by intro w' hSw; go_simp⟩) (by first | trivial | assumption) ?_
            simp only [Act.put, List.setIfInBounds_toArray, List.set_cons_zero, List.set_cons_succ]
            refine take_to 4 41 (.int .i64 (J : Int)) rfl rfl (by kernel_rfl) (by kernel_rfl) (by kernel_rfl) (fun _ _ _ h => h) (Or.inl ⟨by rfl, by intro w' hSw; go_simp⟩) (by first | trivial | assumption) ?_
            simp only [Act.put, List.setIfInBounds_toArray, List.set_cons_zero, List.set_cons_succ]
            refine take_to 5 42 (.slice (some ⟨g, 0, none⟩) N N) rfl rfl (by kernel_rfl) (by kernel_rfl) (by kernel_rfl) (fun _ _ _ h => h) (Or.inl ⟨by rfl, by intro w' hSw; go_simp⟩) (by first | trivial | assumption) ?_
            simp only [Act.put, List.setIfInBounds_toArray, List.set_cons_zero, List.set_cons_succ]
            refine take_to 6 43 (.int .i64 (j : Int)) rfl rfl (by kernel_rfl) (by kernel_rfl) (by kernel_rfl) (fun _ _ _ h => h) (Or.inl ⟨by rfl, by intro w' hSw; go_simp⟩) (by first | trivial | assumption) ?_
            simp only [Act.put, List.setIfInBounds_toArray, List.set_cons_zero, List.set_cons_succ]
            refine take_to 7 44 (.int .i64 (J : Int)) rfl rfl (by kernel_rfl) (by kernel_rfl) (by kernel_rfl) (fun _ _ _ h => h) (Or.inl ⟨by rfl, by intro w' hSw; go_simp⟩) (by first | trivial | assumption) ?_
            simp only [Act.put, List.setIfInBounds_toArray, List.set_cons_zero, List.set_cons_succ]
            refine take_to 8 45 (.pointer (some ⟨g, J * 33, none⟩)) rfl rfl (by kernel_rfl) (by kernel_rfl) (by kernel_rfl) (fun _ _ _ h => h) (Or.inl ⟨by rfl, by intro w' hSw; go_simp⟩) (by first | trivial | assumption) ?_
            simp only [Act.put, List.setIfInBounds_toArray, List.set_cons_zero, List.set_cons_succ]
            refine take_to 10 47 (.slice (some ⟨g, 0, none⟩) N N) rfl rfl (by kernel_rfl) (by kernel_rfl) (by kernel_rfl) (fun _ _ _ h => h) (Or.inl ⟨by rfl, by intro w' hSw; go_simp⟩) (by first | trivial | assumption) ?_
            simp only [Act.put, List.setIfInBounds_toArray, List.set_cons_zero, List.set_cons_succ]
            refine take_to 11 48 (.int .i64 (j : Int)) rfl rfl (by kernel_rfl) (by kernel_rfl) (by kernel_rfl) (fun _ _ _ h => h) (Or.inl ⟨by rfl, by intro w' hSw; go_simp⟩) (by first | trivial | assumption) ?_
            simp only [Act.put, List.setIfInBounds_toArray, List.set_cons_zero, List.set_cons_succ]
            refine take_to 12 49 (.pointer (some ⟨g, j * 33, none⟩)) rfl rfl (by kernel_rfl) (by kernel_rfl) (by kernel_rfl) (fun _ _ _ h => h) (Or.inl ⟨by rfl, by intro w' hSw; go_simp⟩) (by first | trivial | assumption) ?_
            simp only [Act.put, List.setIfInBounds_toArray, List.set_cons_zero, List.set_cons_succ]
            refine two_loads 9 13 46 50 rfl rfl rfl rfl rfl rfl (by decide) (by decide) (.tmp 45) (.tmp 49) rfl rfl (fun _ => rfl) (fun _ => rfl) g (J * 33) (j * 33) (cellsE (el D J)) (cellsE (el D j)) (cellsE_length _) (cellsE_length _) rfl rfl (by exact hB2.range hlJ) (by exact hB2.range hlj) (by kernel_rfl) (by kernel_rfl) (by kernel_rfl) ?_
            simp only [Act.put, List.setIfInBounds_toArray, List.set_cons_zero, List.set_cons_succ]
            refine take_to 14 51 (.pointer (some ⟨g, j * 33, none⟩)) rfl rfl (by kernel_rfl) (by kernel_rfl) (by kernel_rfl) (fun _ _ _ h => h) (Or.inl ⟨by rfl, by intro w' hSw; go_simp⟩) (by first | trivial | assumption) ?_
            simp only [Act.put, List.setIfInBounds_toArray, List.set_cons_zero, List.set_cons_succ]
            refine wpAnyH_ready (rs := [15]) (by kernel_rfl) (by simp) (AllReadyH.cons rfl (fun K hK => ?_) AllReadyH.nil)
            rw [if_pos (by rfl)]
            refine wp_put_to (.tmp 51) (.tmp 46) (by rfl) (by rfl) g (j) (D) (el D J) (by rfl) (by rfl) (by exact hB2) (hlj) ?_
            intro w3 hC1 hg1
            refine hK.out _ _ trivial (fun _ => ?_)
            clear hK K
            refine take_to 16 52 (.pointer (some ⟨g, J * 33, none⟩)) rfl rfl (by kernel_rfl) (by kernel_rfl) (by kernel_rfl) (fun _ _ _ h => h) (Or.inl ⟨by rfl, by intro w' hSw; go_simp⟩) (by first | trivial | assumption) ?_
            simp only [Act.put, List.setIfInBounds_toArray, List.set_cons_zero, List.set_cons_succ]
            refine wpAnyH_ready (rs := [17]) (by kernel_rfl) (by simp) (AllReadyH.cons rfl (fun K hK => ?_) AllReadyH.nil)
            rw [if_pos (by rfl)]
            refine wp_put_to (.tmp 52) (.tmp 50) (by rfl) (by rfl) g (J) (D.set j (el D J)) (el D j) (by rfl) (by rfl) (by exact hC1) (by rw [List.length_set]; exact hlJ) ?_
            intro w4 hC2 hg2
            refine hK.out _ _ trivial (fun _ => ?_)
            clear hK K
            refine wpAnyH_done (by kernel_rfl) ?_ _
            have hs : Swp D ((D.set j (el D J)).set J (el D j)) J := by rw [HJ.out]; exact swp_down (by rw [← HJ.out]; exact hlj)
            have HR2 := hid (HR.out.trans (hs.rearr (by rw [← HJ.out]; exact hlj) (by rw [← HJ.out]; exact hk) f5 (by have := HJ.out; omega)))
            have HO2 := hid (hole_step (by rw [← HJ.out]; exact HO.out) f5 (by have := HJ.out; omega) (by rw [← HJ.out]; exact hk) hs)
            have HL2 : Hid (((D.set j (el D J)).set J (el D j)).length = N) := by
              have := HL.out
              show ((D.set j (el D J)).set J (el D j)).length = N
              simpa using this
            have hgr3 := hgr2.trans ((grown_drew _ _).trans (hg1.trans hg2))
            clear hC1 hg1 hg2 hB hB2 hgr hgr2 HO HR hs
            go_wp2
            go_roundw
            case rel => exact ⟨J, rfl, f5, by have := HJ.out; omega, _, HL2, hC2, HR2, HO2, hgr3⟩
            case measure => have := HJ.out; simp [intOf]; omega
          · have ec : ¬ cmpI (el D j).1 (el D J).1 < 0 := fun h => hk ((cmpI_neg _ _).1 h)
            go_wp2
            refine wp_region_held_drew (S := fun w' => w'.rangeAt g (j * 33) (cellsE (el D j)) ∧ w'.rangeAt g (J * 33) (cellsE (el D J))) (by kernel_rfl) (by exact ⟨hB.range hlj, hB.range hlJ⟩) (fun hHeld => ?_)
            refine take_to 0 18 (.int .i64 (j : Int)) rfl rfl (by kernel_rfl) (by kernel_rfl) (by kernel_rfl) (fun _ _ _ h => h) (Or.inl ⟨by rfl, by intro w' hSw; go_simp⟩) (by first | trivial | assumption) ?_
            simp only [Act.put, List.setIfInBounds_toArray, List.set_cons_zero, List.set_cons_succ]
            refine take_to 1 19 (.int .i64 (a : Int)) rfl rfl (by kernel_rfl) (by kernel_rfl) (by kernel_rfl) (fun _ _ _ h => h) (Or.inl ⟨by rfl, by intro w' hSw; go_simp⟩) (by first | trivial | assumption) ?_
            simp only [Act.put, List.setIfInBounds_toArray, List.set_cons_zero, List.set_cons_succ]
            refine take_to 2 20 (.bool true) rfl rfl (by kernel_rfl) (by kernel_rfl) (by kernel_rfl) (fun _ _ _ h => h) (Or.inl ⟨by rfl, by intro w' hSw; go_simp⟩) (by first | trivial | assumption) ?_
            simp only [Act.put, List.setIfInBounds_toArray, List.set_cons_zero, List.set_cons_succ]
            refine take_to 3 21 (.bool true) rfl rfl (by kernel_rfl) (by kernel_rfl) (by kernel_rfl) (fun _ _ _ h => h) (Or.inl ⟨by rfl, by intro w' hSw; go_simp⟩) (by first | trivial | assumption) ?_
            simp only [Act.put, List.setIfInBounds_toArray, List.set_cons_zero, List.set_cons_succ]
            refine take_to 4 22 (cf) rfl rfl (by kernel_rfl) (by kernel_rfl) (by kernel_rfl) (fun _ _ _ h => h) (Or.inl ⟨by rfl, by intro w' hSw; go_simp⟩) (by first | trivial | assumption) ?_
            simp only [Act.put, List.setIfInBounds_toArray, List.set_cons_zero, List.set_cons_succ]
            refine take_to 5 23 (.slice (some ⟨g, 0, none⟩) N N) rfl rfl (by kernel_rfl) (by kernel_rfl) (by kernel_rfl) (fun _ _ _ h => h) (Or.inl ⟨by rfl, by intro w' hSw; go_simp⟩) (by first | trivial | assumption) ?_
            simp only [Act.put, List.setIfInBounds_toArray, List.set_cons_zero, List.set_cons_succ]
            refine take_to 6 24 (.int .i64 (j : Int)) rfl rfl (by kernel_rfl) (by kernel_rfl) (by kernel_rfl) (fun _ _ _ h => h) (Or.inl ⟨by rfl, by intro w' hSw; go_simp⟩) (by first | trivial | assumption) ?_
            simp only [Act.put, List.setIfInBounds_toArray, List.set_cons_zero, List.set_cons_succ]
            refine take_to 7 25 (.pointer (some ⟨g, j * 33, none⟩)) rfl rfl (by kernel_rfl) (by kernel_rfl) (by kernel_rfl) (fun _ _ _ h => h) (Or.inl ⟨by rfl, by intro w' hSw; go_simp⟩) (by first | trivial | assumption) ?_
            simp only [Act.put, List.setIfInBounds_toArray, List.set_cons_zero, List.set_cons_succ]
            refine take_to 8 26 (.agg (cellsE (el D j)).toArray) rfl rfl (by kernel_rfl) (by kernel_rfl) (by kernel_rfl) (fun _ _ _ h => h) (yieldsIf_load_mid (by rfl) _ _ rfl _ _ rfl _ _ (fun _ h => h.1) Yba.underlying68 rfl size68) (by first | trivial | assumption) ?_
            simp only [Act.put, List.setIfInBounds_toArray, List.set_cons_zero, List.set_cons_succ]
            refine take_to 9 27 (.slice (some ⟨g, 0, none⟩) N N) rfl rfl (by kernel_rfl) (by kernel_rfl) (by kernel_rfl) (fun _ _ _ h => h) (Or.inl ⟨by rfl, by intro w' hSw; go_simp⟩) (by first | trivial | assumption) ?_
            simp only [Act.put, List.setIfInBounds_toArray, List.set_cons_zero, List.set_cons_succ]
            refine take_to 10 28 (.int .i64 (j : Int)) rfl rfl (by kernel_rfl) (by kernel_rfl) (by kernel_rfl) (fun _ _ _ h => h) (Or.inl ⟨by rfl, by intro w' hSw; go_simp⟩) (by first | trivial | assumption) ?_
            simp only [Act.put, List.setIfInBounds_toArray, List.set_cons_zero, List.set_cons_succ]
            refine take_to 11 29 (.int .i64 (J : Int)) rfl rfl (by kernel_rfl) (by kernel_rfl) (by kernel_rfl) (fun _ _ _ h => h) (Or.inl ⟨by rfl, by intro w' hSw; go_simp⟩) (by first | trivial | assumption) ?_
            simp only [Act.put, List.setIfInBounds_toArray, List.set_cons_zero, List.set_cons_succ]
            refine take_to 12 30 (.pointer (some ⟨g, J * 33, none⟩)) rfl rfl (by kernel_rfl) (by kernel_rfl) (by kernel_rfl) (fun _ _ _ h => h) (Or.inl ⟨by rfl, by intro w' hSw; go_simp⟩) (by first | trivial | assumption) ?_
            simp only [Act.put, List.setIfInBounds_toArray, List.set_cons_zero, List.set_cons_succ]
            refine take_to 13 31 (.agg (cellsE (el D J)).toArray) rfl rfl (by kernel_rfl) (by kernel_rfl) (by kernel_rfl) (fun _ _ _ h => h) (yieldsIf_load_mid (by rfl) _ _ rfl _ _ rfl _ _ (fun _ h => h.2) Yba.underlying68 rfl size68) (by first | trivial | assumption) ?_
            simp only [Act.put, List.setIfInBounds_toArray, List.set_cons_zero, List.set_cons_succ]
            refine wpAnyH_ready (rs := [14]) (by kernel_rfl) (by simp) (AllReadyH.cons rfl (fun K hK => ?_) AllReadyH.nil)
            rw [if_pos (by rfl)]
            refine wp_less_to (.tmp 22) (.tmp 26) (.tmp 31) 32 (by rfl) (by rfl) (el D j) (el D J) (by rfl) (by rfl) (by rfl) ?_
            intro w2 hg2
            simp only [Act.put, List.setIfInBounds_toArray, List.set_cons_zero, List.set_cons_succ]
            refine hK.out _ _ (by exact ⟨(hB.drew.grow hg2 (by simp)).range hlj, (hB.drew.grow hg2 (by simp)).range hlJ⟩) (fun hHeld2 => ?_)
            clear hK K hHeld
            refine take_to 15 33 (.bool false) rfl rfl (by kernel_rfl) (by kernel_rfl) (by kernel_rfl) (fun _ _ _ h => h) (Or.inl ⟨by rfl, by intro w' hSw; go_simp⟩) (by first | trivial | assumption) ?_
            simp only [Act.put, List.setIfInBounds_toArray, List.set_cons_zero, List.set_cons_succ]
            refine take_to 16 34 (.bool false) rfl rfl (by kernel_rfl) (by kernel_rfl) (by kernel_rfl) (fun _ _ _ h => h) (Or.inl ⟨by rfl, by intro w' hSw; go_simp⟩) (by first | trivial | assumption) ?_
            simp only [Act.put, List.setIfInBounds_toArray, List.set_cons_zero, List.set_cons_succ]
            refine wpAnyH_done (by kernel_rfl) ?_ _
            have hB2 := hB.grow (grown_any (row := none) (World.grownBy.trans (grown_drew _ none) hg2)) (by simp)
            have hgr2 : w.grownBy w2 (some g) := hgr.trans (grown_any (World.grownBy.trans (grown_drew _ none) hg2))
            clear hHeld2 hg2
            have HS2 := hid (hole_end HO.out hj2 (.inr (by rw [show j - 1 = J by have := HJ.out; omega]; omega)))
            clear hB hgr HO
            go_wp2
            go_roundw
            case rel => exact ⟨i + 1, by go_num, by omega, .inl (by omega), D, HL, hB2, HR, HS2, hgr2⟩
            case measure => simp [intOf]; omega
        · have hd : decide ((a : Int) < (j : Int)) = false := by simp; omega
          have HS2 := hid (hole_end HO.out hj2 (.inl (by omega)))
          go_wp2
          go_quiet (fail)
          have hB2 : Blk (wr.drewN nq) g D := hB
          have hgr2 : w.grownBy (wr.drewN nq) (some g) := ⟨hgr.os, hgr.tape, hgr.output, hgr.size, hgr.block⟩
          clear hB hgr HO
          go_wp2
          go_roundw
          case rel => exact ⟨i + 1, by go_num, by omega, .inl (by omega), D, HL, hB2, HR, HS2, hgr2⟩
          case measure => simp [intOf]; omega
    · go_wp2
      go_end0
      have HS2 : Srt D a b := fun p q h1 h2 h3 => HS.out p q h1 h2 (by omega)
      exact ⟨rfl, D, hB, HR.out, HS2, hgr⟩
end Go.Proofs.Ybulkbaiq
