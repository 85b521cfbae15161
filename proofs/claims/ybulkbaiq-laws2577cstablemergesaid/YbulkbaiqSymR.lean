/- slices.symMergeCmpFunc (26): one element on the right. -/
import Derived.Test.YbulkbaiqRotate
import Derived.Test.YbulkbaiqSearch
namespace Go.Proofs.Ybulkbaiq
open Go.RowKit
set_option linter.unusedSimpArgs false
set_option linter.unusedVariables false

set_option maxRecDepth 100000 in
set_option maxHeartbeats 4000000 in
theorem sym_right (D0 : Row) (g a m b N : Nat) (w : World) (hN : D0.length = N) (hb : Blk w g D0) (ham : a + 1 < m) (hmb : b = m + 1) (hbN : b ≤ N) (hN2 : N ≤ 4096) (hs : Srt D0 a m) :
    Calls Yba.prog 26 #[.slice (some ⟨g, 0, none⟩) N N, .int .i64 a, .int .i64 m, .int .i64 b, cf] w fun e w' => e = .returned (.tuple #[]) ∧ ∃ D, Blk w' g D ∧ Rearr D0 D a b ∧ Srt D a b ∧ w.grownBy w' (some g) := by
  have HN : Hid (D0.length = N) := hN
  have HS := hid hs
  have HM := hid hmb
  obtain ⟨d1, hd1⟩ : ∃ d : Nat, d = m - a := ⟨_, rfl⟩
  have h0 : (m : Int) - (a : Int) = (d1 : Int) := by omega
  have h0' : ((d1 : Int) == 1) = false := by rw [beq_eq_false_iff_ne]; omega
  have h1 : (b : Int) - (m : Int) = 1 := by omega
  have f0 : m < N := by omega
  have f1 : a < m := by omega
  have f2 : (m : Int) < (N : Int) := by omega
  have hl_m : m < D0.length := by rw [hN]; exact f0
  clear hN hs hmb hd1
  go_enter Yba.func26, Yba.ntmps26
  go_wp2
  go_loopw [14, 15] (fun vi vj wr => ∃ i j : Nat, vi = .int .i64 i ∧ vj = .int .i64 j ∧ a ≤ i ∧ i ≤ j ∧ j ≤ m ∧ Blk wr g D0 ∧ Hid (∀ p, a ≤ p → p < i → ky D0 p ≤ ky D0 m) ∧ Hid (∀ p, j ≤ p → p < m → ky D0 m < ky D0 p) ∧ w.grownBy wr (some g)) (fun vi vj _ => (intOf vj).toNat - (intOf vi).toNat)
  case atStart => exact ⟨a, m, rfl, rfl, Nat.le_refl _, by omega, Nat.le_refl _, hb, fun p e1 e2 => by omega, fun p e1 e2 => by omega, World.grownBy.refl _ _⟩
  case round =>
    obtain ⟨i, j, rfl, rfl, c1, c2, c3, hB, HLo, HHi, hgr⟩ := hrel
    clear hb
    by_cases hij : i < j
    · obtain ⟨H, hH⟩ : ∃ H : Nat, H = (i + j) / 2 := ⟨_, rfl⟩
      have eH : ((i : Int) + (j : Int)) / 2 = (H : Int) := by omega
      have f3 : H < N := by omega
      have f4 : (H : Int) < (N : Int) := by omega
      have f5 : i ≤ H := by omega
      have f6 : H < j := by omega
      have hl_H : H < D0.length := by rw [HN.out]; exact f3
      clear hH
      by_cases hk : ky D0 m < ky D0 H
      · have ec : cmpI (el D0 m).1 (el D0 H).1 < 0 := (cmpI_neg _ _).2 hk
        have HHi2 := hid (two_hi HS.out (by omega) hk)
        go_wp2
        refine wp_region_held_drew (S := fun w' => w'.rangeAt g (m * 33) (cellsE (el D0 m)) ∧ w'.rangeAt g (H * 33) (cellsE (el D0 H))) (by kernel_rfl) (by exact ⟨hB.range hl_m, hB.range hl_H⟩) (fun hHeld => ?_)
        refine take_to 0 92 (cf) rfl rfl (by kernel_rfl) (by kernel_rfl) (by kernel_rfl) (fun _ _ _ h => h) (Or.inl ⟨by rfl, by intro w' hSw; go_simp⟩) (by first | trivial | assumption) ?_
        simp only [Act.put, List.setIfInBounds_toArray, List.set_cons_zero, List.set_cons_succ]
        refine take_to 1 93 (.slice (some ⟨g, 0, none⟩) N N) rfl rfl (by kernel_rfl) (by kernel_rfl) (by kernel_rfl) (fun _ _ _ h => h) (Or.inl ⟨by rfl, by intro w' hSw; go_simp⟩) (by first | trivial | assumption) ?_
        simp only [Act.put, List.setIfInBounds_toArray, List.set_cons_zero, List.set_cons_succ]
        refine take_to 2 94 (.int .i64 (m : Int)) rfl rfl (by kernel_rfl) (by kernel_rfl) (by kernel_rfl) (fun _ _ _ h => h) (Or.inl ⟨by rfl, by intro w' hSw; go_simp⟩) (by first | trivial | assumption) ?_
        simp only [Act.put, List.setIfInBounds_toArray, List.set_cons_zero, List.set_cons_succ]
        refine take_to 3 95 (.pointer (some ⟨g, m * 33, none⟩)) rfl rfl (by kernel_rfl) (by kernel_rfl) (by kernel_rfl) (fun _ _ _ h => h) (Or.inl ⟨by rfl, by intro w' hSw; go_simp⟩) (by first | trivial | assumption) ?_
        simp only [Act.put, List.setIfInBounds_toArray, List.set_cons_zero, List.set_cons_succ]
        refine take_to 4 96 (.agg (cellsE (el D0 m)).toArray) rfl rfl (by kernel_rfl) (by kernel_rfl) (by kernel_rfl) (fun _ _ _ h => h) (yieldsIf_load_mid (by rfl) _ _ rfl _ _ rfl _ _ (fun _ h => h.1) Yba.underlying68 rfl size68) (by first | trivial | assumption) ?_
        simp only [Act.put, List.setIfInBounds_toArray, List.set_cons_zero, List.set_cons_succ]
        refine take_to 5 97 (.slice (some ⟨g, 0, none⟩) N N) rfl rfl (by kernel_rfl) (by kernel_rfl) (by kernel_rfl) (fun _ _ _ h => h) (Or.inl ⟨by rfl, by intro w' hSw; go_simp⟩) (by first | trivial | assumption) ?_
        simp only [Act.put, List.setIfInBounds_toArray, List.set_cons_zero, List.set_cons_succ]
        refine take_to 6 98 (.int .i64 (H : Int)) rfl rfl (by kernel_rfl) (by kernel_rfl) (by kernel_rfl) (fun _ _ _ h => h) (Or.inl ⟨by rfl, by intro w' hSw; go_simp⟩) (by first | trivial | assumption) ?_
        simp only [Act.put, List.setIfInBounds_toArray, List.set_cons_zero, List.set_cons_succ]
        refine take_to 7 99 (.pointer (some ⟨g, H * 33, none⟩)) rfl rfl (by kernel_rfl) (by kernel_rfl) (by kernel_rfl) (fun _ _ _ h => h) (Or.inl ⟨by rfl, by intro w' hSw; go_simp⟩) (by first | trivial | assumption) ?_
        simp only [Act.put, List.setIfInBounds_toArray, List.set_cons_zero, List.set_cons_succ]
        refine take_to 8 100 (.agg (cellsE (el D0 H)).toArray) rfl rfl (by kernel_rfl) (by kernel_rfl) (by kernel_rfl) (fun _ _ _ h => h) (yieldsIf_load_mid (by rfl) _ _ rfl _ _ rfl _ _ (fun _ h => h.2) Yba.underlying68 rfl size68) (by first | trivial | assumption) ?_
        simp only [Act.put, List.setIfInBounds_toArray, List.set_cons_zero, List.set_cons_succ]
        refine wpAnyH_ready (rs := [9]) (by kernel_rfl) (by simp) (AllReadyH.cons rfl (fun K hK => ?_) AllReadyH.nil)
        rw [if_pos (by rfl)]
        refine wp_less_to (.tmp 92) (.tmp 96) (.tmp 100) 101 (by rfl) (by rfl) (el D0 m) (el D0 H) (by rfl) (by rfl) (by rfl) ?_
        intro w2 hg2
        simp only [Act.put, List.setIfInBounds_toArray, List.set_cons_zero, List.set_cons_succ]
        refine hK.out _ _ (by exact ⟨(hB.drew.grow hg2 (by simp)).range hl_m, (hB.drew.grow hg2 (by simp)).range hl_H⟩) (fun hHeld2 => ?_)
        clear hK K hHeld
        refine take_to 10 102 (.bool true) rfl rfl (by kernel_rfl) (by kernel_rfl) (by kernel_rfl) (fun _ _ _ h => h) (Or.inl ⟨by rfl, by intro w' hSw; go_simp⟩) (by first | trivial | assumption) ?_
        simp only [Act.put, List.setIfInBounds_toArray, List.set_cons_zero, List.set_cons_succ]
        refine take_to 11 103 (.bool false) rfl rfl (by kernel_rfl) (by kernel_rfl) (by kernel_rfl) (fun _ _ _ h => h) (Or.inl ⟨by rfl, by intro w' hSw; go_simp⟩) (by first | trivial | assumption) ?_
        simp only [Act.put, List.setIfInBounds_toArray, List.set_cons_zero, List.set_cons_succ]
        refine wpAnyH_done (by kernel_rfl) ?_ _
        have hB2 := hB.grow (grown_any (row := none) (World.grownBy.trans (grown_drew _ none) hg2)) (by simp)
        have hgr2 : w.grownBy w2 (some g) := hgr.trans (grown_any (World.grownBy.trans (grown_drew _ none) hg2))
        clear hHeld2 hg2 hB hgr
        go_wp2
        go_roundw
        case rel => exact ⟨i, H, rfl, rfl, c1, by omega, by omega, hB2, HLo, HHi2, hgr2⟩
        case measure => simp [intOf]; omega
      · have ec : ¬ cmpI (el D0 m).1 (el D0 H).1 < 0 := fun h => hk ((cmpI_neg _ _).1 h)
        have HLo2 := hid (two_lo HS.out (by omega) (Int.not_lt.1 hk))
        go_wp2
        refine wp_region_held_drew (S := fun w' => w'.rangeAt g (m * 33) (cellsE (el D0 m)) ∧ w'.rangeAt g (H * 33) (cellsE (el D0 H))) (by kernel_rfl) (by exact ⟨hB.range hl_m, hB.range hl_H⟩) (fun hHeld => ?_)
        refine take_to 0 92 (cf) rfl rfl (by kernel_rfl) (by kernel_rfl) (by kernel_rfl) (fun _ _ _ h => h) (Or.inl ⟨by rfl, by intro w' hSw; go_simp⟩) (by first | trivial | assumption) ?_
        simp only [Act.put, List.setIfInBounds_toArray, List.set_cons_zero, List.set_cons_succ]
        refine take_to 1 93 (.slice (some ⟨g, 0, none⟩) N N) rfl rfl (by kernel_rfl) (by kernel_rfl) (by kernel_rfl) (fun _ _ _ h => h) (Or.inl ⟨by rfl, by intro w' hSw; go_simp⟩) (by first | trivial | assumption) ?_
        simp only [Act.put, List.setIfInBounds_toArray, List.set_cons_zero, List.set_cons_succ]
        refine take_to 2 94 (.int .i64 (m : Int)) rfl rfl (by kernel_rfl) (by kernel_rfl) (by kernel_rfl) (fun _ _ _ h => h) (Or.inl ⟨by rfl, by intro w' hSw; go_simp⟩) (by first | trivial | assumption) ?_
        simp only [Act.put, List.setIfInBounds_toArray, List.set_cons_zero, List.set_cons_succ]
        refine take_to 3 95 (.pointer (some ⟨g, m * 33, none⟩)) rfl rfl (by kernel_rfl) (by kernel_rfl) (by kernel_rfl) (fun _ _ _ h => h) (Or.inl ⟨by rfl, by intro w' hSw; go_simp⟩) (by first | trivial | assumption) ?_
        simp only [Act.put, List.setIfInBounds_toArray, List.set_cons_zero, List.set_cons_succ]
        refine take_to 4 96 (.agg (cellsE (el D0 m)).toArray) rfl rfl (by kernel_rfl) (by kernel_rfl) (by kernel_rfl) (fun _ _ _ h => h) (yieldsIf_load_mid (by rfl) _ _ rfl _ _ rfl _ _ (fun _ h => h.1) Yba.underlying68 rfl size68) (by first | trivial | assumption) ?_
        simp only [Act.put, List.setIfInBounds_toArray, List.set_cons_zero, List.set_cons_succ]
        refine take_to 5 97 (.slice (some ⟨g, 0, none⟩) N N) rfl rfl (by kernel_rfl) (by kernel_rfl) (by kernel_rfl) (fun _ _ _ h => h) (Or.inl ⟨by rfl, by intro w' hSw; go_simp⟩) (by first | trivial | assumption) ?_
        simp only [Act.put, List.setIfInBounds_toArray, List.set_cons_zero, List.set_cons_succ]
        refine take_to 6 98 (.int .i64 (H : Int)) rfl rfl (by kernel_rfl) (by kernel_rfl) (by kernel_rfl) (fun _ _ _ h => h) (Or.inl ⟨by rfl, by intro w' hSw; go_simp⟩) (by first | trivial | assumption) ?_
        simp only [Act.put, List.setIfInBounds_toArray, List.set_cons_zero, List.set_cons_succ]
        refine take_to 7 99 (.pointer (some ⟨g, H * 33, none⟩)) rfl rfl (by kernel_rfl) (by kernel_rfl) (by kernel_rfl) (fun _ _ _ h => h) (Or.inl ⟨by rfl, by intro w' hSw; go_simp⟩) (by first | trivial | assumption) ?_
        simp only [Act.put, List.setIfInBounds_toArray, List.set_cons_zero, List.set_cons_succ]
        refine take_to 8 100 (.agg (cellsE (el D0 H)).toArray) rfl rfl (by kernel_rfl) (by kernel_rfl) (by kernel_rfl) (fun _ _ _ h => h) (yieldsIf_load_mid (by rfl) _ _ rfl _ _ rfl _ _ (fun _ h => h.2) Yba.underlying68 rfl size68) (by first | trivial | assumption) ?_
        simp only [Act.put, List.setIfInBounds_toArray, List.set_cons_zero, List.set_cons_succ]
        refine wpAnyH_ready (rs := [9]) (by kernel_rfl) (by simp) (AllReadyH.cons rfl (fun K hK => ?_) AllReadyH.nil)
        rw [if_pos (by rfl)]
        refine wp_less_to (.tmp 92) (.tmp 96) (.tmp 100) 101 (by rfl) (by rfl) (el D0 m) (el D0 H) (by rfl) (by rfl) (by rfl) ?_
        intro w2 hg2
        simp only [Act.put, List.setIfInBounds_toArray, List.set_cons_zero, List.set_cons_succ]
        refine hK.out _ _ (by exact ⟨(hB.drew.grow hg2 (by simp)).range hl_m, (hB.drew.grow hg2 (by simp)).range hl_H⟩) (fun hHeld2 => ?_)
        clear hK K hHeld
        refine take_to 10 102 (.bool false) rfl rfl (by kernel_rfl) (by kernel_rfl) (by kernel_rfl) (fun _ _ _ h => h) (Or.inl ⟨by rfl, by intro w' hSw; go_simp⟩) (by first | trivial | assumption) ?_
        simp only [Act.put, List.setIfInBounds_toArray, List.set_cons_zero, List.set_cons_succ]
        refine take_to 11 103 (.bool true) rfl rfl (by kernel_rfl) (by kernel_rfl) (by kernel_rfl) (fun _ _ _ h => h) (Or.inl ⟨by rfl, by intro w' hSw; go_simp⟩) (by first | trivial | assumption) ?_
        simp only [Act.put, List.setIfInBounds_toArray, List.set_cons_zero, List.set_cons_succ]
        refine wpAnyH_done (by kernel_rfl) ?_ _
        have hB2 := hB.grow (grown_any (row := none) (World.grownBy.trans (grown_drew _ none) hg2)) (by simp)
        have hgr2 : w.grownBy w2 (some g) := hgr.trans (grown_any (World.grownBy.trans (grown_drew _ none) hg2))
        clear hHeld2 hg2 hB hgr
        go_wp2
        go_roundw
        case rel => exact ⟨H + 1, j, by go_num, rfl, by omega, by omega, c3, hB2, HLo2, HHi, hgr2⟩
        case measure => simp [intOf]; omega
    · obtain rfl : i = j := by omega
      rename World => wA
      go_wp2
      go_loopw [17] (fun vk wr => ∃ k : Nat, vk = .int .i64 k ∧ i ≤ k ∧ k ≤ m ∧ ∃ D, Hid (D.length = N) ∧ Blk wr g D ∧ Hid (Rearr D0 D a b) ∧ Hid (Dn D0 D m k) ∧ w.grownBy wr (some g)) (fun vk _ => (intOf vk).toNat)
      case atStart => exact ⟨m, rfl, c3, Nat.le_refl _, D0, HN, hB, Rearr.refl _ _ _, dn_start _ _, hgr⟩
      case round =>
        clear hB hgr
        obtain ⟨k, rfl, k1, k2, D, HL, hB, HR, HU, hgr⟩ := hrel
        by_cases hki : i < k
        · obtain ⟨K1, hK1⟩ : ∃ K1 : Nat, k = K1 + 1 := ⟨k - 1, by omega⟩
          have eK : (k : Int) - 1 = (K1 : Int) := by omega
          have p0 : i ≤ K1 := by omega
          have p1 : K1 < N := by omega
          have p2 : k < N := by omega
          have p3 : (K1 : Int) < (N : Int) := by omega
          have p4 : (k : Int) < (N : Int) := by omega
          have wK : IntKind.i64.wrap (K1 : Int) = (K1 : Int) := wrapS (by omega) (by omega)
          have hlk : k < D.length := by rw [HL.out]; exact p2
          have hlK : K1 < D.length := by rw [HL.out]; exact p1
          have HK := hid hK1
          have HU' : Hid (Dn D0 D m (K1 + 1)) := by
            have := HU.out
            rw [hK1] at this
            exact this
          have HKY : Hid (ky D (K1 + 1) < ky D K1) := by
            show ky D (K1 + 1) < ky D K1
            rw [(dn_key HU'.out).1, (dn_key HU'.out).2]
            exact HHi.out _ p0 (by omega)
          clear hK1 HU
          go_wp2
          refine wp_region_held_drew (S := fun _ => True) (by kernel_rfl) trivial (fun hHeld => ?_)
          refine take_to 0 113 (.slice (some ⟨g, 0, none⟩) N N) rfl rfl (by kernel_rfl) (by kernel_rfl) (by kernel_rfl) (fun _ _ _ h => h) (Or.inl ⟨by rfl, by intro w' hSw; go_simp⟩) (by first | trivial | assumption) ?_
          simp only [Act.put, List.setIfInBounds_toArray, List.set_cons_zero, List.set_cons_succ]
          refine take_to 1 114 (.int .i64 (k : Int)) rfl rfl (by kernel_rfl) (by kernel_rfl) (by kernel_rfl) (fun _ _ _ h => h) (Or.inl ⟨by rfl, by intro w' hSw; go_simp⟩) (by first | trivial | assumption) ?_
          simp only [Act.put, List.setIfInBounds_toArray, List.set_cons_zero, List.set_cons_succ]
          refine take_to 2 115 (.slice (some ⟨g, 0, none⟩) N N) rfl rfl (by kernel_rfl) (by kernel_rfl) (by kernel_rfl) (fun _ _ _ h => h) (Or.inl ⟨by rfl, by intro w' hSw; go_simp⟩) (by first | trivial | assumption) ?_
          simp only [Act.put, List.setIfInBounds_toArray, List.set_cons_zero, List.set_cons_succ]
          refine take_to 3 116 (.int .i64 (k : Int)) rfl rfl (by kernel_rfl) (by kernel_rfl) (by kernel_rfl) (fun _ _ _ h => h) (Or.inl ⟨by rfl, by intro w' hSw; go_simp⟩) (by first | trivial | assumption) ?_
          simp only [Act.put, List.setIfInBounds_toArray, List.set_cons_zero, List.set_cons_succ]
          refine take_to 4 117 (.int .i64 (K1 : Int)) rfl rfl (by kernel_rfl) (by kernel_rfl) (by kernel_rfl) (fun _ _ _ h => h) (Or.inl ⟨by rfl, by intro w' hSw; go_simp⟩) (by first | trivial | assumption) ?_
          simp only [Act.put, List.setIfInBounds_toArray, List.set_cons_zero, List.set_cons_succ]
          refine take_to 5 118 (.slice (some ⟨g, 0, none⟩) N N) rfl rfl (by kernel_rfl) (by kernel_rfl) (by kernel_rfl) (fun _ _ _ h => h) (Or.inl ⟨by rfl, by intro w' hSw; go_simp⟩) (by first | trivial | assumption) ?_
          simp only [Act.put, List.setIfInBounds_toArray, List.set_cons_zero, List.set_cons_succ]
          refine take_to 6 119 (.int .i64 (k : Int)) rfl rfl (by kernel_rfl) (by kernel_rfl) (by kernel_rfl) (fun _ _ _ h => h) (Or.inl ⟨by rfl, by intro w' hSw; go_simp⟩) (by first | trivial | assumption) ?_
          simp only [Act.put, List.setIfInBounds_toArray, List.set_cons_zero, List.set_cons_succ]
          refine take_to 7 120 (.int .i64 (K1 : Int)) rfl rfl (by kernel_rfl) (by kernel_rfl) (by kernel_rfl) (fun _ _ _ h => h) (Or.inl ⟨by rfl, by intro w' hSw; go_simp⟩) (by first | trivial | assumption) ?_
          simp only [Act.put, List.setIfInBounds_toArray, List.set_cons_zero, List.set_cons_succ]
          refine take_to 8 121 (.pointer (some ⟨g, K1 * 33, none⟩)) rfl rfl (by kernel_rfl) (by kernel_rfl) (by kernel_rfl) (fun _ _ _ h => h) (Or.inl ⟨by rfl, by intro w' hSw; go_simp⟩) (by first | trivial | assumption) ?_
          simp only [Act.put, List.setIfInBounds_toArray, List.set_cons_zero, List.set_cons_succ]
          refine take_to 10 123 (.slice (some ⟨g, 0, none⟩) N N) rfl rfl (by kernel_rfl) (by kernel_rfl) (by kernel_rfl) (fun _ _ _ h => h) (Or.inl ⟨by rfl, by intro w' hSw; go_simp⟩) (by first | trivial | assumption) ?_
          simp only [Act.put, List.setIfInBounds_toArray, List.set_cons_zero, List.set_cons_succ]
          refine take_to 11 124 (.int .i64 (k : Int)) rfl rfl (by kernel_rfl) (by kernel_rfl) (by kernel_rfl) (fun _ _ _ h => h) (Or.inl ⟨by rfl, by intro w' hSw; go_simp⟩) (by first | trivial | assumption) ?_
          simp only [Act.put, List.setIfInBounds_toArray, List.set_cons_zero, List.set_cons_succ]
          refine take_to 12 125 (.pointer (some ⟨g, k * 33, none⟩)) rfl rfl (by kernel_rfl) (by kernel_rfl) (by kernel_rfl) (fun _ _ _ h => h) (Or.inl ⟨by rfl, by intro w' hSw; go_simp⟩) (by first | trivial | assumption) ?_
          simp only [Act.put, List.setIfInBounds_toArray, List.set_cons_zero, List.set_cons_succ]
          refine two_loads 9 13 122 126 rfl rfl rfl rfl rfl rfl (by decide) (by decide) (.tmp 121) (.tmp 125) rfl rfl (fun _ => rfl) (fun _ => rfl) g (K1 * 33) (k * 33) (cellsE (el D K1)) (cellsE (el D k)) (cellsE_length _) (cellsE_length _) rfl rfl (by exact hB.range hlK) (by exact hB.range hlk) (by kernel_rfl) (by kernel_rfl) (by kernel_rfl) ?_
          simp only [Act.put, List.setIfInBounds_toArray, List.set_cons_zero, List.set_cons_succ]
          refine take_to 14 127 (.pointer (some ⟨g, k * 33, none⟩)) rfl rfl (by kernel_rfl) (by kernel_rfl) (by kernel_rfl) (fun _ _ _ h => h) (Or.inl ⟨by rfl, by intro w' hSw; go_simp⟩) (by first | trivial | assumption) ?_
          simp only [Act.put, List.setIfInBounds_toArray, List.set_cons_zero, List.set_cons_succ]
          refine wpAnyH_ready (rs := [15]) (by kernel_rfl) (by simp) (AllReadyH.cons rfl (fun K hK => ?_) AllReadyH.nil)
          rw [if_pos (by rfl)]
          refine wp_put_to (.tmp 127) (.tmp 122) (by rfl) (by rfl) g (k) (D) (el D K1) (by rfl) (by rfl) (by exact hB) (hlk) ?_
          intro w3 hC1 hg1
          refine hK.out _ _ trivial (fun _ => ?_)
          clear hK K
          refine take_to 16 128 (.pointer (some ⟨g, K1 * 33, none⟩)) rfl rfl (by kernel_rfl) (by kernel_rfl) (by kernel_rfl) (fun _ _ _ h => h) (Or.inl ⟨by rfl, by intro w' hSw; go_simp⟩) (by first | trivial | assumption) ?_
          simp only [Act.put, List.setIfInBounds_toArray, List.set_cons_zero, List.set_cons_succ]
          refine wpAnyH_ready (rs := [17]) (by kernel_rfl) (by simp) (AllReadyH.cons rfl (fun K hK => ?_) AllReadyH.nil)
          rw [if_pos (by rfl)]
          refine wp_put_to (.tmp 128) (.tmp 126) (by rfl) (by rfl) g (K1) (D.set k (el D K1)) (el D k) (by rfl) (by rfl) (by exact hC1) (by rw [List.length_set]; exact hlK) ?_
          intro w4 hC2 hg2
          refine hK.out _ _ trivial (fun _ => ?_)
          clear hK K
          refine wpAnyH_done (by kernel_rfl) ?_ _
          have hs : Swp D ((D.set k (el D K1)).set K1 (el D k)) K1 := by rw [HK.out]; exact swp_down (by rw [← HK.out]; exact hlk)
          have HR2 := hid (HR.out.trans (hs.rearr (by rw [← HK.out]; exact hlk) HKY.out (by omega) (by have := HK.out; have := HM.out; omega)))
          have HU2 := hid (dn_step HU'.out (by have := HK.out; omega) hs)
          have HL2 : Hid (((D.set k (el D K1)).set K1 (el D k)).length = N) := by
            have := HL.out
            show ((D.set k (el D K1)).set K1 (el D k)).length = N
            simpa using this
          have hgr3 := hgr.trans ((grown_drew _ _).trans (hg1.trans hg2))
          clear hC1 hg1 hg2 hB hgr HU' HR hs
          go_wp2
          go_roundw
          case rel => exact ⟨K1, rfl, p0, by have := HK.out; omega, _, HL2, hC2, HR2, HU2, hgr3⟩
          case measure => have := HK.out; simp [intOf]; omega
        · obtain rfl : k = i := by omega
          have hfin : Srt D a b := by rw [HM.out]; exact dn_end HU.out c1 c3 HS.out HLo.out HHi.out
          go_wp2
          exact bodyPost_ret (v := .tuple #[]) (by simp [results, Yba.results26]) rfl ⟨rfl, D, hB, HR.out, hfin, hgr⟩
end Go.Proofs.Ybulkbaiq
