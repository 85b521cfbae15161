/- slices.symMergeCmpFunc (26): the general step, the cut left of the middle. -/
import Derived.Test.YbulkbaiqRotate
import Derived.Test.YbulkbaiqSearch
namespace Go.Proofs.Ybulkbaiq
open Go.RowKit
set_option linter.unusedSimpArgs false
set_option linter.unusedVariables false

set_option maxRecDepth 100000 in
set_option maxHeartbeats 8000000 in
theorem sym_lo (D0 : Row) (g a m b N mid : Nat) (w : World) (hN : D0.length = N) (hb : Blk w g D0) (ham : a + 1 < m) (hmb : m + 1 < b) (hbN : b ≤ N) (hN2 : N ≤ 4096) (hsl : Srt D0 a m) (hsr : Srt D0 m b) (hmid : mid = (a + b) / 2) (hsel : m ≤ mid)
    (IH : ∀ (D : Row) (a' m' b' : Nat) (w' : World), b' - a' < b - a → D.length = N → Blk w' g D → a' < m' → m' < b' → b' ≤ N → Srt D a' m' → Srt D m' b' →
      Calls Yba.prog 26 #[.slice (some ⟨g, 0, none⟩) N N, .int .i64 a', .int .i64 m', .int .i64 b', cf] w' fun e w'' => e = .returned (.tuple #[]) ∧ ∃ D', Blk w'' g D' ∧ Rearr D D' a' b' ∧ Srt D' a' b' ∧ w'.grownBy w'' (some g)) :
    Calls Yba.prog 26 #[.slice (some ⟨g, 0, none⟩) N N, .int .i64 a, .int .i64 m, .int .i64 b, cf] w fun e w' => e = .returned (.tuple #[]) ∧ ∃ D, Blk w' g D ∧ Rearr D0 D a b ∧ Srt D a b ∧ w.grownBy w' (some g) := by
  have HN : Hid (D0.length = N) := hN
  have HSL := hid hsl
  have HSR := hid hsr
  obtain ⟨d1, hd1⟩ : ∃ d : Nat, d = m - a := ⟨_, rfl⟩
  obtain ⟨d2, hd2⟩ : ∃ d : Nat, d = b - m := ⟨_, rfl⟩
  obtain ⟨n, hn⟩ : ∃ n : Nat, n = mid + m := ⟨_, rfl⟩
  obtain ⟨P, hP⟩ : ∃ P : Nat, P = mid + m - 1 := ⟨_, rfl⟩
  have h0 : (m : Int) - (a : Int) = (d1 : Int) := by omega
  have h0' : ((d1 : Int) == 1) = false := by rw [beq_eq_false_iff_ne]; omega
  have h1 : (b : Int) - (m : Int) = (d2 : Int) := by omega
  have h1' : ((d2 : Int) == 1) = false := by rw [beq_eq_false_iff_ne]; omega
  have eM : ((a : Int) + (b : Int)) / 2 = (mid : Int) := by omega
  have eN : (mid : Int) + (m : Int) = (n : Int) := by omega
  have eP : (n : Int) - 1 = (P : Int) := by omega
  have q1 : a ≤ a := by omega
  have q2 : m ≤ m := by omega
  have q3 : m ≤ mid := by omega
  have q4 : mid + m ≤ b + a := by omega
  have q7 : a ≤ m := by omega
  have b1 : a ≤ mid := by omega
  have b2 : mid < b := by omega
  have b3 : mid < m ∨ m ≤ mid := by omega
  have HQ5 : Hid (m = mid ∨ m = m) := by show m = mid ∨ m = m; omega
  have HQ6 : Hid (mid + m = b + a ∨ a = a) := by show mid + m = b + a ∨ a = a; omega
  have HPn := hid hP
  have Hn := hid hn
  have bP : P ≤ 10000 := by omega
  have bn : n ≤ 10000 := by omega
  have bq : n ≤ m + b := by omega
  clear hN hsl hsr hd1 hd2 hn hP hmid
  go_enter Yba.func26, Yba.ntmps26
  go_wp2
  go_loopw [20, 21] (fun vs vr wr => ∃ s r : Nat, vs = .int .i64 s ∧ vr = .int .i64 r ∧ a ≤ s ∧ s ≤ r ∧ r ≤ m ∧ Blk wr g D0 ∧ Hid (SLo D0 (mid + m - 1) a s) ∧ Hid (SHi D0 (mid + m - 1) r m) ∧ w.grownBy wr (some g)) (fun vs vr _ => (intOf vr).toNat - (intOf vs).toNat)
  case atStart => exact ⟨a, m, rfl, rfl, Nat.le_refl _, q7, Nat.le_refl _, hb, fun c e1 e2 => by omega, fun c e1 e2 => by omega, World.grownBy.refl _ _⟩
  case round =>
    obtain ⟨s, r, rfl, rfl, c1, c2, c3, hB, HLo, HHi, hgr⟩ := hrel
    clear hb
    by_cases hij : s < r
    · obtain ⟨c, hc⟩ : ∃ c : Nat, c = (s + r) / 2 := ⟨_, rfl⟩
      obtain ⟨Q, hQ⟩ : ∃ Q : Nat, Q = mid + m - 1 - c := ⟨_, rfl⟩
      have ec : ((s : Int) + (r : Int)) / 2 = (c : Int) := by omega
      have eQ : (P : Int) - (c : Int) = (Q : Int) := by have := HPn.out; omega
      have f3 : c < N := by omega
      have f4 : (c : Int) < (N : Int) := by omega
      have f5 : s ≤ c := by omega
      have f6 : c < r := by omega
      have f7 : Q < N := by omega
      have f8 : (Q : Int) < (N : Int) := by omega
      have wQ : IntKind.i64.wrap (Q : Int) = (Q : Int) := wrapS (by omega) (by omega)
      have hl_c : c < D0.length := by rw [HN.out]; exact f3
      have hl_Q : Q < D0.length := by rw [HN.out]; exact f7
      by_cases hk : ky D0 Q < ky D0 c
      · have ecm : cmpI (el D0 Q).1 (el D0 c).1 < 0 := (cmpI_neg _ _).2 hk
        have HHi2 := hid (shi_step HSL.out HSR.out q1 q2 q3 q4 HHi.out c3 (by omega) f6 (by rw [← hQ]; exact hk))
        clear hc hQ
        go_wp2
        refine wp_region_held_drew (S := fun w' => w'.rangeAt g (Q * 33) (cellsE (el D0 Q)) ∧ w'.rangeAt g (c * 33) (cellsE (el D0 c))) (by kernel_rfl) (by exact ⟨hB.range hl_Q, hB.range hl_c⟩) (fun hHeld => ?_)
        refine take_to 0 158 (cf) rfl rfl (by kernel_rfl) (by kernel_rfl) (by kernel_rfl) (fun _ _ _ h => h) (Or.inl ⟨by rfl, by intro w' hSw; go_simp⟩) (by first | trivial | assumption) ?_
        simp only [Act.put, List.setIfInBounds_toArray, List.set_cons_zero, List.set_cons_succ]
        refine take_to 1 159 (.slice (some ⟨g, 0, none⟩) N N) rfl rfl (by kernel_rfl) (by kernel_rfl) (by kernel_rfl) (fun _ _ _ h => h) (Or.inl ⟨by rfl, by intro w' hSw; go_simp⟩) (by first | trivial | assumption) ?_
        simp only [Act.put, List.setIfInBounds_toArray, List.set_cons_zero, List.set_cons_succ]
        refine take_to 2 160 (.int .i64 (P : Int)) rfl rfl (by kernel_rfl) (by kernel_rfl) (by kernel_rfl) (fun _ _ _ h => h) (Or.inl ⟨by rfl, by intro w' hSw; go_simp⟩) (by first | trivial | assumption) ?_
        simp only [Act.put, List.setIfInBounds_toArray, List.set_cons_zero, List.set_cons_succ]
        refine take_to 3 161 (.int .i64 (c : Int)) rfl rfl (by kernel_rfl) (by kernel_rfl) (by kernel_rfl) (fun _ _ _ h => h) (Or.inl ⟨by rfl, by intro w' hSw; go_simp⟩) (by first | trivial | assumption) ?_
        simp only [Act.put, List.setIfInBounds_toArray, List.set_cons_zero, List.set_cons_succ]
        refine take_to 4 162 (.int .i64 (Q : Int)) rfl rfl (by kernel_rfl) (by kernel_rfl) (by kernel_rfl) (fun _ _ _ h => h) (Or.inl ⟨by rfl, by intro w' hSw; go_simp⟩) (by first | trivial | assumption) ?_
        simp only [Act.put, List.setIfInBounds_toArray, List.set_cons_zero, List.set_cons_succ]
        refine take_to 5 163 (.pointer (some ⟨g, Q * 33, none⟩)) rfl rfl (by kernel_rfl) (by kernel_rfl) (by kernel_rfl) (fun _ _ _ h => h) (Or.inl ⟨by rfl, by intro w' hSw; go_simp⟩) (by first | trivial | assumption) ?_
        simp only [Act.put, List.setIfInBounds_toArray, List.set_cons_zero, List.set_cons_succ]
        refine take_to 6 164 (.agg (cellsE (el D0 Q)).toArray) rfl rfl (by kernel_rfl) (by kernel_rfl) (by kernel_rfl) (fun _ _ _ h => h) (yieldsIf_load_mid (by rfl) _ _ rfl _ _ rfl _ _ (fun _ h => h.1) Yba.underlying68 rfl size68) (by first | trivial | assumption) ?_
        simp only [Act.put, List.setIfInBounds_toArray, List.set_cons_zero, List.set_cons_succ]
        refine take_to 7 165 (.slice (some ⟨g, 0, none⟩) N N) rfl rfl (by kernel_rfl) (by kernel_rfl) (by kernel_rfl) (fun _ _ _ h => h) (Or.inl ⟨by rfl, by intro w' hSw; go_simp⟩) (by first | trivial | assumption) ?_
        simp only [Act.put, List.setIfInBounds_toArray, List.set_cons_zero, List.set_cons_succ]
        refine take_to 8 166 (.int .i64 (c : Int)) rfl rfl (by kernel_rfl) (by kernel_rfl) (by kernel_rfl) (fun _ _ _ h => h) (Or.inl ⟨by rfl, by intro w' hSw; go_simp⟩) (by first | trivial | assumption) ?_
        simp only [Act.put, List.setIfInBounds_toArray, List.set_cons_zero, List.set_cons_succ]
        refine take_to 9 167 (.pointer (some ⟨g, c * 33, none⟩)) rfl rfl (by kernel_rfl) (by kernel_rfl) (by kernel_rfl) (fun _ _ _ h => h) (Or.inl ⟨by rfl, by intro w' hSw; go_simp⟩) (by first | trivial | assumption) ?_
        simp only [Act.put, List.setIfInBounds_toArray, List.set_cons_zero, List.set_cons_succ]
        refine take_to 10 168 (.agg (cellsE (el D0 c)).toArray) rfl rfl (by kernel_rfl) (by kernel_rfl) (by kernel_rfl) (fun _ _ _ h => h) (yieldsIf_load_mid (by rfl) _ _ rfl _ _ rfl _ _ (fun _ h => h.2) Yba.underlying68 rfl size68) (by first | trivial | assumption) ?_
        simp only [Act.put, List.setIfInBounds_toArray, List.set_cons_zero, List.set_cons_succ]
        refine wpAnyH_ready (rs := [11]) (by kernel_rfl) (by simp) (AllReadyH.cons rfl (fun K hK => ?_) AllReadyH.nil)
        rw [if_pos (by rfl)]
        refine wp_less_to (.tmp 158) (.tmp 164) (.tmp 168) 169 (by rfl) (by rfl) (el D0 Q) (el D0 c) (by rfl) (by rfl) (by rfl) ?_
        intro w2 hg2
        simp only [Act.put, List.setIfInBounds_toArray, List.set_cons_zero, List.set_cons_succ]
        refine hK.out _ _ (by exact ⟨(hB.drew.grow hg2 (by simp)).range hl_Q, (hB.drew.grow hg2 (by simp)).range hl_c⟩) (fun hHeld2 => ?_)
        clear hK K hHeld
        refine take_to 12 170 (.bool true) rfl rfl (by kernel_rfl) (by kernel_rfl) (by kernel_rfl) (fun _ _ _ h => h) (Or.inl ⟨by rfl, by intro w' hSw; go_simp⟩) (by first | trivial | assumption) ?_
        simp only [Act.put, List.setIfInBounds_toArray, List.set_cons_zero, List.set_cons_succ]
        refine take_to 13 171 (.bool false) rfl rfl (by kernel_rfl) (by kernel_rfl) (by kernel_rfl) (fun _ _ _ h => h) (Or.inl ⟨by rfl, by intro w' hSw; go_simp⟩) (by first | trivial | assumption) ?_
        simp only [Act.put, List.setIfInBounds_toArray, List.set_cons_zero, List.set_cons_succ]
        refine wpAnyH_done (by kernel_rfl) ?_ _
        have hB2 := hB.grow (grown_any (row := none) (World.grownBy.trans (grown_drew _ none) hg2)) (by simp)
        have hgr2 : w.grownBy w2 (some g) := hgr.trans (grown_any (World.grownBy.trans (grown_drew _ none) hg2))
        clear hHeld2 hg2 hB hgr
        go_wp2
        go_roundw
        case rel => exact ⟨s, c, rfl, rfl, c1, by omega, by omega, hB2, HLo, HHi2, hgr2⟩
        case measure => simp [intOf]; omega
      · have ecm : ¬ cmpI (el D0 Q).1 (el D0 c).1 < 0 := fun h => hk ((cmpI_neg _ _).1 h)
        have HLo2 := hid (slo_step HSL.out HSR.out q1 q2 q3 q4 HLo.out c1 f5 (by omega) (by rw [← hQ]; exact Int.not_lt.1 hk))
        clear hc hQ
        go_wp2
        refine wp_region_held_drew (S := fun w' => w'.rangeAt g (Q * 33) (cellsE (el D0 Q)) ∧ w'.rangeAt g (c * 33) (cellsE (el D0 c))) (by kernel_rfl) (by exact ⟨hB.range hl_Q, hB.range hl_c⟩) (fun hHeld => ?_)
        refine take_to 0 158 (cf) rfl rfl (by kernel_rfl) (by kernel_rfl) (by kernel_rfl) (fun _ _ _ h => h) (Or.inl ⟨by rfl, by intro w' hSw; go_simp⟩) (by first | trivial | assumption) ?_
        simp only [Act.put, List.setIfInBounds_toArray, List.set_cons_zero, List.set_cons_succ]
        refine take_to 1 159 (.slice (some ⟨g, 0, none⟩) N N) rfl rfl (by kernel_rfl) (by kernel_rfl) (by kernel_rfl) (fun _ _ _ h => h) (Or.inl ⟨by rfl, by intro w' hSw; go_simp⟩) (by first | trivial | assumption) ?_
        simp only [Act.put, List.setIfInBounds_toArray, List.set_cons_zero, List.set_cons_succ]
        refine take_to 2 160 (.int .i64 (P : Int)) rfl rfl (by kernel_rfl) (by kernel_rfl) (by kernel_rfl) (fun _ _ _ h => h) (Or.inl ⟨by rfl, by intro w' hSw; go_simp⟩) (by first | trivial | assumption) ?_
        simp only [Act.put, List.setIfInBounds_toArray, List.set_cons_zero, List.set_cons_succ]
        refine take_to 3 161 (.int .i64 (c : Int)) rfl rfl (by kernel_rfl) (by kernel_rfl) (by kernel_rfl) (fun _ _ _ h => h) (Or.inl ⟨by rfl, by intro w' hSw; go_simp⟩) (by first | trivial | assumption) ?_
        simp only [Act.put, List.setIfInBounds_toArray, List.set_cons_zero, List.set_cons_succ]
        refine take_to 4 162 (.int .i64 (Q : Int)) rfl rfl (by kernel_rfl) (by kernel_rfl) (by kernel_rfl) (fun _ _ _ h => h) (Or.inl ⟨by rfl, by intro w' hSw; go_simp⟩) (by first | trivial | assumption) ?_
        simp only [Act.put, List.setIfInBounds_toArray, List.set_cons_zero, List.set_cons_succ]
        refine take_to 5 163 (.pointer (some ⟨g, Q * 33, none⟩)) rfl rfl (by kernel_rfl) (by kernel_rfl) (by kernel_rfl) (fun _ _ _ h => h) (Or.inl ⟨by rfl, by intro w' hSw; go_simp⟩) (by first | trivial | assumption) ?_
        simp only [Act.put, List.setIfInBounds_toArray, List.set_cons_zero, List.set_cons_succ]
        refine take_to 6 164 (.agg (cellsE (el D0 Q)).toArray) rfl rfl (by kernel_rfl) (by kernel_rfl) (by kernel_rfl) (fun _ _ _ h => h) (yieldsIf_load_mid (by rfl) _ _ rfl _ _ rfl _ _ (fun _ h => h.1) Yba.underlying68 rfl size68) (by first | trivial | assumption) ?_
        simp only [Act.put, List.setIfInBounds_toArray, List.set_cons_zero, List.set_cons_succ]
        refine take_to 7 165 (.slice (some ⟨g, 0, none⟩) N N) rfl rfl (by kernel_rfl) (by kernel_rfl) (by kernel_rfl) (fun _ _ _ h => h) (Or.inl ⟨by rfl, by intro w' hSw; go_simp⟩) (by first | trivial | assumption) ?_
        simp only [Act.put, List.setIfInBounds_toArray, List.set_cons_zero, List.set_cons_succ]
        refine take_to 8 166 (.int .i64 (c : Int)) rfl rfl (by kernel_rfl) (by kernel_rfl) (by kernel_rfl) (fun _ _ _ h => h) (Or.inl ⟨by rfl, by intro w' hSw; go_simp⟩) (by first | trivial | assumption) ?_
        simp only [Act.put, List.setIfInBounds_toArray, List.set_cons_zero, List.set_cons_succ]
        refine take_to 9 167 (.pointer (some ⟨g, c * 33, none⟩)) rfl rfl (by kernel_rfl) (by kernel_rfl) (by kernel_rfl) (fun _ _ _ h => h) (Or.inl ⟨by rfl, by intro w' hSw; go_simp⟩) (by first | trivial | assumption) ?_
        simp only [Act.put, List.setIfInBounds_toArray, List.set_cons_zero, List.set_cons_succ]
        refine take_to 10 168 (.agg (cellsE (el D0 c)).toArray) rfl rfl (by kernel_rfl) (by kernel_rfl) (by kernel_rfl) (fun _ _ _ h => h) (yieldsIf_load_mid (by rfl) _ _ rfl _ _ rfl _ _ (fun _ h => h.2) Yba.underlying68 rfl size68) (by first | trivial | assumption) ?_
        simp only [Act.put, List.setIfInBounds_toArray, List.set_cons_zero, List.set_cons_succ]
        refine wpAnyH_ready (rs := [11]) (by kernel_rfl) (by simp) (AllReadyH.cons rfl (fun K hK => ?_) AllReadyH.nil)
        rw [if_pos (by rfl)]
        refine wp_less_to (.tmp 158) (.tmp 164) (.tmp 168) 169 (by rfl) (by rfl) (el D0 Q) (el D0 c) (by rfl) (by rfl) (by rfl) ?_
        intro w2 hg2
        simp only [Act.put, List.setIfInBounds_toArray, List.set_cons_zero, List.set_cons_succ]
        refine hK.out _ _ (by exact ⟨(hB.drew.grow hg2 (by simp)).range hl_Q, (hB.drew.grow hg2 (by simp)).range hl_c⟩) (fun hHeld2 => ?_)
        clear hK K hHeld
        refine take_to 12 170 (.bool false) rfl rfl (by kernel_rfl) (by kernel_rfl) (by kernel_rfl) (fun _ _ _ h => h) (Or.inl ⟨by rfl, by intro w' hSw; go_simp⟩) (by first | trivial | assumption) ?_
        simp only [Act.put, List.setIfInBounds_toArray, List.set_cons_zero, List.set_cons_succ]
        refine take_to 13 171 (.bool true) rfl rfl (by kernel_rfl) (by kernel_rfl) (by kernel_rfl) (fun _ _ _ h => h) (Or.inl ⟨by rfl, by intro w' hSw; go_simp⟩) (by first | trivial | assumption) ?_
        simp only [Act.put, List.setIfInBounds_toArray, List.set_cons_zero, List.set_cons_succ]
        refine wpAnyH_done (by kernel_rfl) ?_ _
        have hB2 := hB.grow (grown_any (row := none) (World.grownBy.trans (grown_drew _ none) hg2)) (by simp)
        have hgr2 : w.grownBy w2 (some g) := hgr.trans (grown_any (World.grownBy.trans (grown_drew _ none) hg2))
        clear hHeld2 hg2 hB hgr
        go_wp2
        go_roundw
        case rel => exact ⟨c + 1, r, by go_num, rfl, by omega, by omega, c3, hB2, HLo2, HHi, hgr2⟩
        case measure => simp [intOf]; omega
    · obtain rfl : s = r := by omega
      obtain ⟨f, hf⟩ : ∃ f : Nat, f = mid + m - s := ⟨_, rfl⟩
      have ef : (n : Int) - (s : Int) = (f : Int) := by have := Hn.out; omega
      have HCut := hid (cut_of (a := a) (b := b) q1 q2 q3 q4 (.inr rfl) (.inr rfl) HLo.out HHi.out c1 c3)
      rw [← hf] at HCut
      have t1 : a ≤ s := HCut.out.h1
      have t2 : s ≤ m := HCut.out.h2
      have t3 : m ≤ f := HCut.out.h3
      have t4 : f ≤ b := HCut.out.h4
      have t5 : s ≤ mid := by omega
      have t6 : mid ≤ f := by omega
      rename World => w1
      clear hf HLo HHi hij c1 c2 c3 q1 q2 q3 q4 q7
      by_cases hrot : s < m ∧ m < f
      · obtain ⟨r1, r2⟩ := hrot
        go_wp2_with fail
        refine (rotate_any D0 g s m f N _ HN.out (by exact hB) r1 r2 (by omega) hN2).mono ?_
        rintro e w1b ⟨rfl, D1, hB1, hRot, hg1⟩
        have HRot := hid hRot
        have hgr1 := hgr.trans hg1
        clear hRot hg1 hB hgr
        have HR1 := hid (cut_rearr HCut.out HSL.out HSR.out HRot.out (by rw [HN.out]; exact hbN))
        obtain ⟨x1, x2, x3, x4, x5⟩ := cut_rot HCut.out HSL.out HSR.out HRot.out
        have HD := hid x1
        have HE := hid x2
        have HF := hid x3
        have HG := hid x4
        have HC := hid x5
        clear x1 x2 x3 x4 x5
        by_cases hx : a < s ∧ s < mid
        · obtain ⟨x1, x2⟩ := hx
          go_wp2_with fail
          refine (IH D1 a s mid _ (by omega) (by rw [HR1.out.len]; exact HN.out) (by exact hB1) x1 x2 (by omega) HD.out HE.out).mono ?_
          rintro e w2 ⟨rfl, D2, hB2, R2, S2, g2⟩
          have HR2 := hid R2
          have HS2 := hid S2
          have hgr2 := hgr1.trans g2
          clear R2 S2 g2 hB1 hgr1
          have HX3 := hid (HR2.out.srt_out HF.out (.inr (Nat.le_refl _)))
          have HX4 := hid (HR2.out.srt_out HG.out (.inr (by have := HCut.out.h3; have := HCut.out.sum; have := HCut.out.h2; omega)))
          by_cases hy : mid < f ∧ f < b
          · obtain ⟨y1, y2⟩ := hy
            go_wp2_with fail
            refine (IH D2 mid f b _ (by omega) (by rw [HR2.out.len, HR1.out.len]; exact HN.out) (by exact hB2) y1 y2 hbN HX3.out HX4.out).mono ?_
            rintro e w3 ⟨rfl, D3, hB3, R3, S3, g3⟩
            have hfin := sym_final HC.out HR2.out HS2.out R3 S3 (by omega) (by omega)
            go_wp2
            go_end0
            exact ⟨rfl, D3, hB3, HR1.out.trans hfin.1, hfin.2, hgr2.trans g3⟩
          · have S3 : Srt D2 mid b := skip_left HX3.out HX4.out hy (by omega)
            have hfin := sym_final HC.out HR2.out HS2.out (Rearr.refl D2 mid b) S3 (by omega) (by omega)
            by_cases y1 : mid < f
            · have y2 : ¬ f < b := fun h => hy ⟨y1, h⟩
              clear hy
              go_wp2
              go_end0
              exact ⟨rfl, D2, hB2, HR1.out.trans hfin.1, hfin.2, hgr2⟩
            · clear hy
              go_wp2
              go_end0
              exact ⟨rfl, D2, hB2, HR1.out.trans hfin.1, hfin.2, hgr2⟩
        · have S2 : Srt D1 a mid := skip_left HD.out HE.out hx (by omega)
          obtain ⟨D2, hD2⟩ : ∃ D2, D2 = D1 := ⟨_, rfl⟩
          have HR2 : Hid (Rearr D1 D2 a mid) := by rw [hD2]; exact Rearr.refl _ _ _
          have HS2 : Hid (Srt D2 a mid) := by rw [hD2]; exact S2
          have hB2 := hB1
          rw [← hD2] at hB2
          have hgr2 := hgr1
          clear hD2 S2 hB1 hgr1
          by_cases x1 : a < s
          · have x2 : ¬ s < mid := fun h => hx ⟨x1, h⟩
            clear hx
            have HX3 := hid (HR2.out.srt_out HF.out (.inr (Nat.le_refl _)))
            have HX4 := hid (HR2.out.srt_out HG.out (.inr (by have := HCut.out.h3; have := HCut.out.sum; have := HCut.out.h2; omega)))
            by_cases hy : mid < f ∧ f < b
            · obtain ⟨y1, y2⟩ := hy
              go_wp2_with fail
              refine (IH D2 mid f b _ (by omega) (by rw [HR2.out.len, HR1.out.len]; exact HN.out) (by exact hB2) y1 y2 hbN HX3.out HX4.out).mono ?_
              rintro e w3 ⟨rfl, D3, hB3, R3, S3, g3⟩
              have hfin := sym_final HC.out HR2.out HS2.out R3 S3 (by omega) (by omega)
              go_wp2
              go_end0
              exact ⟨rfl, D3, hB3, HR1.out.trans hfin.1, hfin.2, hgr2.trans g3⟩
            · have S3 : Srt D2 mid b := skip_left HX3.out HX4.out hy (by omega)
              have hfin := sym_final HC.out HR2.out HS2.out (Rearr.refl D2 mid b) S3 (by omega) (by omega)
              by_cases y1 : mid < f
              · have y2 : ¬ f < b := fun h => hy ⟨y1, h⟩
                clear hy
                go_wp2
                go_end0
                exact ⟨rfl, D2, hB2, HR1.out.trans hfin.1, hfin.2, hgr2⟩
              · clear hy
                go_wp2
                go_end0
                exact ⟨rfl, D2, hB2, HR1.out.trans hfin.1, hfin.2, hgr2⟩
          · clear hx
            have HX3 := hid (HR2.out.srt_out HF.out (.inr (Nat.le_refl _)))
            have HX4 := hid (HR2.out.srt_out HG.out (.inr (by have := HCut.out.h3; have := HCut.out.sum; have := HCut.out.h2; omega)))
            by_cases hy : mid < f ∧ f < b
            · obtain ⟨y1, y2⟩ := hy
              go_wp2_with fail
              refine (IH D2 mid f b _ (by omega) (by rw [HR2.out.len, HR1.out.len]; exact HN.out) (by exact hB2) y1 y2 hbN HX3.out HX4.out).mono ?_
              rintro e w3 ⟨rfl, D3, hB3, R3, S3, g3⟩
              have hfin := sym_final HC.out HR2.out HS2.out R3 S3 (by omega) (by omega)
              go_wp2
              go_end0
              exact ⟨rfl, D3, hB3, HR1.out.trans hfin.1, hfin.2, hgr2.trans g3⟩
            · have S3 : Srt D2 mid b := skip_left HX3.out HX4.out hy (by omega)
              have hfin := sym_final HC.out HR2.out HS2.out (Rearr.refl D2 mid b) S3 (by omega) (by omega)
              by_cases y1 : mid < f
              · have y2 : ¬ f < b := fun h => hy ⟨y1, h⟩
                clear hy
                go_wp2
                go_end0
                exact ⟨rfl, D2, hB2, HR1.out.trans hfin.1, hfin.2, hgr2⟩
              · clear hy
                go_wp2
                go_end0
                exact ⟨rfl, D2, hB2, HR1.out.trans hfin.1, hfin.2, hgr2⟩
      · have hRot := rot_none HCut.out hrot
        obtain ⟨D1, hD1⟩ : ∃ D1, D1 = D0 := ⟨_, rfl⟩
        have HRot : Hid (Rot D0 D1 s m f) := by rw [hD1]; exact hRot
        have hB1 : Blk w1 g D1 := by rw [hD1]; exact hB
        have hgr1 := hgr
        clear hRot hD1 hB hgr
        by_cases r1 : s < m
        · have r2 : ¬ m < f := fun h => hrot ⟨r1, h⟩
          clear hrot
          have HR1 := hid (cut_rearr HCut.out HSL.out HSR.out HRot.out (by rw [HN.out]; exact hbN))
          obtain ⟨x1, x2, x3, x4, x5⟩ := cut_rot HCut.out HSL.out HSR.out HRot.out
          have HD := hid x1
          have HE := hid x2
          have HF := hid x3
          have HG := hid x4
          have HC := hid x5
          clear x1 x2 x3 x4 x5
          by_cases hx : a < s ∧ s < mid
          · obtain ⟨x1, x2⟩ := hx
            go_wp2_with fail
            refine (IH D1 a s mid _ (by omega) (by rw [HR1.out.len]; exact HN.out) (by exact hB1) x1 x2 (by omega) HD.out HE.out).mono ?_
            rintro e w2 ⟨rfl, D2, hB2, R2, S2, g2⟩
            have HR2 := hid R2
            have HS2 := hid S2
            have hgr2 := hgr1.trans g2
            clear R2 S2 g2 hB1 hgr1
            have HX3 := hid (HR2.out.srt_out HF.out (.inr (Nat.le_refl _)))
            have HX4 := hid (HR2.out.srt_out HG.out (.inr (by have := HCut.out.h3; have := HCut.out.sum; have := HCut.out.h2; omega)))
            by_cases hy : mid < f ∧ f < b
            · obtain ⟨y1, y2⟩ := hy
              go_wp2_with fail
              refine (IH D2 mid f b _ (by omega) (by rw [HR2.out.len, HR1.out.len]; exact HN.out) (by exact hB2) y1 y2 hbN HX3.out HX4.out).mono ?_
              rintro e w3 ⟨rfl, D3, hB3, R3, S3, g3⟩
              have hfin := sym_final HC.out HR2.out HS2.out R3 S3 (by omega) (by omega)
              go_wp2
              go_end0
              exact ⟨rfl, D3, hB3, HR1.out.trans hfin.1, hfin.2, hgr2.trans g3⟩
            · have S3 : Srt D2 mid b := skip_left HX3.out HX4.out hy (by omega)
              have hfin := sym_final HC.out HR2.out HS2.out (Rearr.refl D2 mid b) S3 (by omega) (by omega)
              by_cases y1 : mid < f
              · have y2 : ¬ f < b := fun h => hy ⟨y1, h⟩
                clear hy
                go_wp2
                go_end0
                exact ⟨rfl, D2, hB2, HR1.out.trans hfin.1, hfin.2, hgr2⟩
              · clear hy
                go_wp2
                go_end0
                exact ⟨rfl, D2, hB2, HR1.out.trans hfin.1, hfin.2, hgr2⟩
          · have S2 : Srt D1 a mid := skip_left HD.out HE.out hx (by omega)
            obtain ⟨D2, hD2⟩ : ∃ D2, D2 = D1 := ⟨_, rfl⟩
            have HR2 : Hid (Rearr D1 D2 a mid) := by rw [hD2]; exact Rearr.refl _ _ _
            have HS2 : Hid (Srt D2 a mid) := by rw [hD2]; exact S2
            have hB2 := hB1
            rw [← hD2] at hB2
            have hgr2 := hgr1
            clear hD2 S2 hB1 hgr1
            by_cases x1 : a < s
            · have x2 : ¬ s < mid := fun h => hx ⟨x1, h⟩
              clear hx
              have HX3 := hid (HR2.out.srt_out HF.out (.inr (Nat.le_refl _)))
              have HX4 := hid (HR2.out.srt_out HG.out (.inr (by have := HCut.out.h3; have := HCut.out.sum; have := HCut.out.h2; omega)))
              by_cases hy : mid < f ∧ f < b
              · obtain ⟨y1, y2⟩ := hy
                go_wp2_with fail
                refine (IH D2 mid f b _ (by omega) (by rw [HR2.out.len, HR1.out.len]; exact HN.out) (by exact hB2) y1 y2 hbN HX3.out HX4.out).mono ?_
                rintro e w3 ⟨rfl, D3, hB3, R3, S3, g3⟩
                have hfin := sym_final HC.out HR2.out HS2.out R3 S3 (by omega) (by omega)
                go_wp2
                go_end0
                exact ⟨rfl, D3, hB3, HR1.out.trans hfin.1, hfin.2, hgr2.trans g3⟩
              · have S3 : Srt D2 mid b := skip_left HX3.out HX4.out hy (by omega)
                have hfin := sym_final HC.out HR2.out HS2.out (Rearr.refl D2 mid b) S3 (by omega) (by omega)
                by_cases y1 : mid < f
                · have y2 : ¬ f < b := fun h => hy ⟨y1, h⟩
                  clear hy
                  go_wp2
                  go_end0
                  exact ⟨rfl, D2, hB2, HR1.out.trans hfin.1, hfin.2, hgr2⟩
                · clear hy
                  go_wp2
                  go_end0
                  exact ⟨rfl, D2, hB2, HR1.out.trans hfin.1, hfin.2, hgr2⟩
            · clear hx
              have HX3 := hid (HR2.out.srt_out HF.out (.inr (Nat.le_refl _)))
              have HX4 := hid (HR2.out.srt_out HG.out (.inr (by have := HCut.out.h3; have := HCut.out.sum; have := HCut.out.h2; omega)))
              by_cases hy : mid < f ∧ f < b
              · obtain ⟨y1, y2⟩ := hy
                go_wp2_with fail
                refine (IH D2 mid f b _ (by omega) (by rw [HR2.out.len, HR1.out.len]; exact HN.out) (by exact hB2) y1 y2 hbN HX3.out HX4.out).mono ?_
                rintro e w3 ⟨rfl, D3, hB3, R3, S3, g3⟩
                have hfin := sym_final HC.out HR2.out HS2.out R3 S3 (by omega) (by omega)
                go_wp2
                go_end0
                exact ⟨rfl, D3, hB3, HR1.out.trans hfin.1, hfin.2, hgr2.trans g3⟩
              · have S3 : Srt D2 mid b := skip_left HX3.out HX4.out hy (by omega)
                have hfin := sym_final HC.out HR2.out HS2.out (Rearr.refl D2 mid b) S3 (by omega) (by omega)
                by_cases y1 : mid < f
                · have y2 : ¬ f < b := fun h => hy ⟨y1, h⟩
                  clear hy
                  go_wp2
                  go_end0
                  exact ⟨rfl, D2, hB2, HR1.out.trans hfin.1, hfin.2, hgr2⟩
                · clear hy
                  go_wp2
                  go_end0
                  exact ⟨rfl, D2, hB2, HR1.out.trans hfin.1, hfin.2, hgr2⟩
        · clear hrot
          have HR1 := hid (cut_rearr HCut.out HSL.out HSR.out HRot.out (by rw [HN.out]; exact hbN))
          obtain ⟨x1, x2, x3, x4, x5⟩ := cut_rot HCut.out HSL.out HSR.out HRot.out
          have HD := hid x1
          have HE := hid x2
          have HF := hid x3
          have HG := hid x4
          have HC := hid x5
          clear x1 x2 x3 x4 x5
          by_cases hx : a < s ∧ s < mid
          · obtain ⟨x1, x2⟩ := hx
            go_wp2_with fail
            refine (IH D1 a s mid _ (by omega) (by rw [HR1.out.len]; exact HN.out) (by exact hB1) x1 x2 (by omega) HD.out HE.out).mono ?_
            rintro e w2 ⟨rfl, D2, hB2, R2, S2, g2⟩
            have HR2 := hid R2
            have HS2 := hid S2
            have hgr2 := hgr1.trans g2
            clear R2 S2 g2 hB1 hgr1
            have HX3 := hid (HR2.out.srt_out HF.out (.inr (Nat.le_refl _)))
            have HX4 := hid (HR2.out.srt_out HG.out (.inr (by have := HCut.out.h3; have := HCut.out.sum; have := HCut.out.h2; omega)))
            by_cases hy : mid < f ∧ f < b
            · obtain ⟨y1, y2⟩ := hy
              go_wp2_with fail
              refine (IH D2 mid f b _ (by omega) (by rw [HR2.out.len, HR1.out.len]; exact HN.out) (by exact hB2) y1 y2 hbN HX3.out HX4.out).mono ?_
              rintro e w3 ⟨rfl, D3, hB3, R3, S3, g3⟩
              have hfin := sym_final HC.out HR2.out HS2.out R3 S3 (by omega) (by omega)
              go_wp2
              go_end0
              exact ⟨rfl, D3, hB3, HR1.out.trans hfin.1, hfin.2, hgr2.trans g3⟩
            · have S3 : Srt D2 mid b := skip_left HX3.out HX4.out hy (by omega)
              have hfin := sym_final HC.out HR2.out HS2.out (Rearr.refl D2 mid b) S3 (by omega) (by omega)
              by_cases y1 : mid < f
              · have y2 : ¬ f < b := fun h => hy ⟨y1, h⟩
                clear hy
                go_wp2
                go_end0
                exact ⟨rfl, D2, hB2, HR1.out.trans hfin.1, hfin.2, hgr2⟩
              · clear hy
                go_wp2
                go_end0
                exact ⟨rfl, D2, hB2, HR1.out.trans hfin.1, hfin.2, hgr2⟩
          · have S2 : Srt D1 a mid := skip_left HD.out HE.out hx (by omega)
            obtain ⟨D2, hD2⟩ : ∃ D2, D2 = D1 := ⟨_, rfl⟩
            have HR2 : Hid (Rearr D1 D2 a mid) := by rw [hD2]; exact Rearr.refl _ _ _
            have HS2 : Hid (Srt D2 a mid) := by rw [hD2]; exact S2
            have hB2 := hB1
            rw [← hD2] at hB2
            have hgr2 := hgr1
            clear hD2 S2 hB1 hgr1
            by_cases x1 : a < s
            · have x2 : ¬ s < mid := fun h => hx ⟨x1, h⟩
              clear hx
              have HX3 := hid (HR2.out.srt_out HF.out (.inr (Nat.le_refl _)))
              have HX4 := hid (HR2.out.srt_out HG.out (.inr (by have := HCut.out.h3; have := HCut.out.sum; have := HCut.out.h2; omega)))
              by_cases hy : mid < f ∧ f < b
              · obtain ⟨y1, y2⟩ := hy
                go_wp2_with fail
                refine (IH D2 mid f b _ (by omega) (by rw [HR2.out.len, HR1.out.len]; exact HN.out) (by exact hB2) y1 y2 hbN HX3.out HX4.out).mono ?_
                rintro e w3 ⟨rfl, D3, hB3, R3, S3, g3⟩
                have hfin := sym_final HC.out HR2.out HS2.out R3 S3 (by omega) (by omega)
                go_wp2
                go_end0
                exact ⟨rfl, D3, hB3, HR1.out.trans hfin.1, hfin.2, hgr2.trans g3⟩
              · have S3 : Srt D2 mid b := skip_left HX3.out HX4.out hy (by omega)
                have hfin := sym_final HC.out HR2.out HS2.out (Rearr.refl D2 mid b) S3 (by omega) (by omega)
                by_cases y1 : mid < f
                · have y2 : ¬ f < b := fun h => hy ⟨y1, h⟩
                  clear hy
                  go_wp2
                  go_end0
                  exact ⟨rfl, D2, hB2, HR1.out.trans hfin.1, hfin.2, hgr2⟩
                · clear hy
                  go_wp2
                  go_end0
                  exact ⟨rfl, D2, hB2, HR1.out.trans hfin.1, hfin.2, hgr2⟩
            · clear hx
              have HX3 := hid (HR2.out.srt_out HF.out (.inr (Nat.le_refl _)))
              have HX4 := hid (HR2.out.srt_out HG.out (.inr (by have := HCut.out.h3; have := HCut.out.sum; have := HCut.out.h2; omega)))
              by_cases hy : mid < f ∧ f < b
              · obtain ⟨y1, y2⟩ := hy
                go_wp2_with fail
                refine (IH D2 mid f b _ (by omega) (by rw [HR2.out.len, HR1.out.len]; exact HN.out) (by exact hB2) y1 y2 hbN HX3.out HX4.out).mono ?_
                rintro e w3 ⟨rfl, D3, hB3, R3, S3, g3⟩
                have hfin := sym_final HC.out HR2.out HS2.out R3 S3 (by omega) (by omega)
                go_wp2
                go_end0
                exact ⟨rfl, D3, hB3, HR1.out.trans hfin.1, hfin.2, hgr2.trans g3⟩
              · have S3 : Srt D2 mid b := skip_left HX3.out HX4.out hy (by omega)
                have hfin := sym_final HC.out HR2.out HS2.out (Rearr.refl D2 mid b) S3 (by omega) (by omega)
                by_cases y1 : mid < f
                · have y2 : ¬ f < b := fun h => hy ⟨y1, h⟩
                  clear hy
                  go_wp2
                  go_end0
                  exact ⟨rfl, D2, hB2, HR1.out.trans hfin.1, hfin.2, hgr2⟩
                · clear hy
                  go_wp2
                  go_end0
                  exact ⟨rfl, D2, hB2, HR1.out.trans hfin.1, hfin.2, hgr2⟩
end Go.Proofs.Ybulkbaiq
