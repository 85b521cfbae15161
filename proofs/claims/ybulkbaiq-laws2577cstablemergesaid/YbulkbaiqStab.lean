/- slices.stableCmpFunc (22), slices.SortStableFunc (17). -/
import Derived.Test.YbulkbaiqSym
import Derived.Test.YbulkbaiqInsert
import Derived.Test.YbulkbaiqBlocks
namespace Go.Proofs.Ybulkbaiq
open Go.RowKit
set_option linter.unusedSimpArgs false
set_option linter.unusedVariables false

set_option maxRecDepth 100000 in
set_option maxHeartbeats 4000000 in
theorem stable_any (D0 : Row) (g N : Nat) (w : World) (hN : D0.length = N) (hb : Blk w g D0) (hN2 : N ≤ 4096) :
    Calls Yba.prog 22 #[.slice (some ⟨g, 0, none⟩) N N, .int .i64 N, cf] w fun e w' => e = .returned (.tuple #[]) ∧ ∃ D, Blk w' g D ∧ Rearr D0 D 0 N ∧ Srt D 0 N ∧ w.grownBy w' (some g) := by
  have HN : Hid (D0.length = N) := hN
  clear hN
  go_enter Yba.func22, Yba.ntmps22
  go_wp2
  go_loopw [7, 8] (fun va vb wr => ∃ A B : Nat, va = .int .i64 A ∧ vb = .int .i64 B ∧ A ≤ N ∧ B ≤ A + 20 ∧ A + 20 ≤ B ∧ Hid (∃ t, A = 20 * t) ∧ ∃ D, Hid (D.length = N) ∧ Blk wr g D ∧ Hid (Rearr D0 D 0 N) ∧ Hid (Blocks D 20 A) ∧ w.grownBy wr (some g)) (fun va _ _ => N - (intOf va).toNat)
  case atStart => exact ⟨0, 20, rfl, rfl, Nat.zero_le _, by omega, by omega, ⟨0, rfl⟩, D0, HN, hb, Rearr.refl _ _ _, blocks_none _ _, World.grownBy.refl _ _⟩
  case round =>
    obtain ⟨A, B, rfl, rfl, c1, c2, c3, HT, D, HL, hB, HR, HK, hgr⟩ := hrel
    clear hb
    by_cases hbn : B ≤ N
    · go_wp2_with fail
      refine (insert_any D g A B N _ HL.out (by exact hB) (by omega) hbn hN2).mono ?_
      rintro e w2 ⟨rfl, D2, hB2, R2, S2, g2⟩
      have HR2 := hid (HR.out.trans (R2.mono (Nat.zero_le _) hbn))
      have HL2 := hid (R2.len.trans HL.out)
      have HT2 : Hid (∃ t, B = 20 * t) := by
        obtain ⟨t, ht⟩ := HT.out
        exact ⟨t + 1, by omega⟩
      have HK2 : Hid (Blocks D2 20 B) := by
        obtain ⟨t, ht⟩ := HT.out
        exact blocks_step (by omega) ht HK.out R2 S2
      have hgr2 := hgr.trans g2
      clear R2 S2 g2 hB hgr HR HK HT HL
      obtain ⟨C, hC⟩ : ∃ C : Nat, C = B + 20 := ⟨_, rfl⟩
      go_wp2
      go_roundw
      case rel => exact ⟨B, B + 20, rfl, by go_num, hbn, by omega, by omega, HT2, D2, HL2, hB2, HR2, HK2, hgr2⟩
      case measure => simp [intOf]; omega
    · go_wp2_with fail
      refine (insert_any D g A N N _ HL.out (by exact hB) c1 (Nat.le_refl _) hN2).mono ?_
      rintro e w2 ⟨rfl, D2, hB2, R2, S2, g2⟩
      have HR2 := hid (HR.out.trans (R2.mono (Nat.zero_le _) (Nat.le_refl _)))
      have HL2 := hid (R2.len.trans HL.out)
      have HK2 : Hid (Blocks D2 20 N) := by
        obtain ⟨t, ht⟩ := HT.out
        exact blocks_step (by omega) ht HK.out R2 S2
      have hgr2 := hgr.trans g2
      clear R2 S2 g2 hB hgr HR HK HT HL c1 c2 c3 hbn
      go_wp2
      go_loopw [6] (fun vs wr => ∃ s : Nat, vs = .int .i64 s ∧ 1 ≤ s ∧ s ≤ 10000 ∧ ∃ D, Hid (D.length = N) ∧ Blk wr g D ∧ Hid (Rearr D0 D 0 N) ∧ Hid (Blocks D s N) ∧ w.grownBy wr (some g)) (fun vs _ => N - (intOf vs).toNat)
      case atStart => exact ⟨20, rfl, by omega, by omega, D2, HL2, hB2, HR2, HK2, hgr2⟩
      case round =>
        clear HL2 hB2 HR2 HK2 hgr2 D2 D
        obtain ⟨s, rfl, s1, s2, D, HL, hB, HR, HK, hgr⟩ := hrel
        by_cases hsn : s < N
        · rename World => w3
          obtain ⟨S2, hS2⟩ : ∃ S2 : Nat, S2 = 2 * s := ⟨_, rfl⟩
          have eS : 2 * (s : Int) = (S2 : Int) := by omega
          have eS' : (s : Int) * 2 = (S2 : Int) := by omega
          have HS2 := hid hS2
          have b1 : 2 ≤ S2 := by omega
          have b2 : S2 ≤ 8192 := by omega
          have b3 : s < S2 := by omega
          clear hS2
          go_wp2
          go_loopw [7, 8] (fun va vb wr => ∃ A B : Nat, va = .int .i64 A ∧ vb = .int .i64 B ∧ A ≤ N ∧ B ≤ A + S2 ∧ A + S2 ≤ B ∧ Hid (∃ t, A = S2 * t) ∧ ∃ D, Hid (D.length = N) ∧ Blk wr g D ∧ Hid (Rearr D0 D 0 N) ∧ Hid (Blocks D S2 A) ∧ Hid (BlocksFrom D s A N) ∧ w.grownBy wr (some g)) (fun va _ _ => N - (intOf va).toNat)
          case atStart => exact ⟨0, S2, rfl, rfl, Nat.zero_le _, by omega, by omega, ⟨0, rfl⟩, D, HL, hB, HR, blocks_none _ _, from_zero HK.out, hgr⟩
          case round =>
            clear HL hB HR HK hgr D
            obtain ⟨A, B, rfl, rfl, c1, c2, c3, HT, D, HL, hB, HR, HK, HF, hgr⟩ := hrel
            obtain ⟨M, hM⟩ : ∃ M : Nat, M = A + s := ⟨_, rfl⟩
            have eM : (A : Int) + (s : Int) = (M : Int) := by omega
            have HM := hid hM
            have m1 : A < M := by omega
            have m2 : M < B := by have := HS2.out; omega
            have m3 : M ≤ 20000 := by omega
            have HA1 : Hid (∃ k, A = s * k) := by
              obtain ⟨t, ht⟩ := HT.out
              exact ⟨2 * t, by rw [ht, HS2.out]; rw [Nat.mul_comm 2 s, Nat.mul_assoc]⟩
            have HA2 : Hid (∃ k, M = s * k) := by
              obtain ⟨k, hk⟩ := HA1.out
              exact ⟨k + 1, by rw [hM, hk, Nat.mul_succ]⟩
            have HB2 : Hid (B = M + s) := by
              show B = M + s
              have := HS2.out
              omega
            clear hM
            by_cases hbn : B ≤ N
            · go_wp2_with fail
              refine (sym_any D g A M B N _ HL.out (by exact hB) m1 m2 hbn hN2 (by obtain ⟨k, hk⟩ := HA1.out; exact from_srt (by omega) HF.out hk (Nat.le_refl _) (by have := HM.out; omega) (by omega)) (by obtain ⟨k, hk⟩ := HA2.out; exact from_srt (by omega) HF.out hk (by omega) (by have := HB2.out; omega) hbn)).mono ?_
              rintro e w4 ⟨rfl, D2, hB2, R2, S3, g2⟩
              have HR2 := hid (HR.out.trans (R2.mono (Nat.zero_le _) hbn))
              have HL2 := hid (R2.len.trans HL.out)
              have HT2 : Hid (∃ t, B = S2 * t) := by
                obtain ⟨t, ht⟩ := HT.out
                exact ⟨t + 1, by rw [Nat.mul_succ]; omega⟩
              have HK2 : Hid (Blocks D2 S2 B) := by
                obtain ⟨t, ht⟩ := HT.out
                exact blocks_step (by omega) ht HK.out R2 S3
              have HF2 := hid (from_step HF.out (by omega) R2)
              have hgr2 := hgr.trans g2
              clear R2 S3 g2 hB hgr HR HK HF HT HL
              go_wp2
              go_roundw
              case rel => exact ⟨B, B + S2, rfl, by go_num, hbn, by omega, by omega, HT2, D2, HL2, hB2, HR2, HK2, HF2, hgr2⟩
              case measure => simp [intOf]; omega
            · by_cases hmn : M < N
              · go_wp2_with fail
                refine (sym_any D g A M N N _ HL.out (by exact hB) m1 hmn (Nat.le_refl _) hN2 (by obtain ⟨k, hk⟩ := HA1.out; exact from_srt (by omega) HF.out hk (Nat.le_refl _) (by have := HM.out; omega) (by omega)) (by obtain ⟨k, hk⟩ := HA2.out; exact from_srt (by omega) HF.out hk (by omega) (by have := HB2.out; omega) (Nat.le_refl _))).mono ?_
                rintro e w4 ⟨rfl, D2, hB2, R2, S3, g2⟩
                have HR2 := hid (HR.out.trans (R2.mono (Nat.zero_le _) (Nat.le_refl _)))
                have HL2 := hid (R2.len.trans HL.out)
                have HK2 : Hid (Blocks D2 S2 N) := by
                  obtain ⟨t, ht⟩ := HT.out
                  exact blocks_step (by omega) ht HK.out R2 S3
                have hgr2 := hgr.trans g2
                clear R2 S3 g2 hB hgr HR HK HF HT HL
                go_wp2
                go_roundw
                case rel => exact ⟨S2, rfl, by omega, by omega, D2, HL2, hB2, HR2, HK2, hgr2⟩
                case measure => simp [intOf]; omega
              · have HK2 : Hid (Blocks D S2 N) := by
                  obtain ⟨t, ht⟩ := HT.out
                  obtain ⟨k, hk⟩ := HA1.out
                  exact blocks_step (by omega) ht HK.out (Rearr.refl D A N) (from_srt (by omega) HF.out hk (Nat.le_refl _) (by have := HM.out; omega) (Nat.le_refl _))
                clear HK HF HT
                go_wp2
                go_roundw
                case rel => exact ⟨S2, rfl, by omega, by omega, D, HL, hB, HR, HK2, hgr⟩
                case measure => simp [intOf]; omega
        · go_wp2
          go_end0
          exact ⟨rfl, D, hB, HR.out, blocks_srt HK.out (by omega), hgr⟩

theorem sort_any (D0 : Row) (g N : Nat) (w : World) (hN : D0.length = N) (hb : Blk w g D0) (hN2 : N ≤ 4096) :
    Calls Yba.prog 17 #[.slice (some ⟨g, 0, none⟩) N N, cf] w fun e w' => e = .returned (.tuple #[]) ∧ ∃ D, Blk w' g D ∧ Rearr D0 D 0 N ∧ Srt D 0 N ∧ w.grownBy w' (some g) := by
  have HN := hid hN
  clear hN
  go_enter Yba.func17, Yba.ntmps17
  go_wp2_with fail
  refine (stable_any D0 g N _ HN.out (by exact hb) hN2).mono ?_
  rintro e w2 ⟨rfl, D2, hB2, R2, S2, g2⟩
  go_wp2
  go_end0
  exact ⟨rfl, D2, hB2, R2, S2, g2⟩
end Go.Proofs.Ybulkbaiq
