/- slices.rotateCmpFunc (28): two neighbouring stretches change places. -/
import Derived.Test.YbulkbaiqSwap
namespace Go.Proofs.Ybulkbaiq
open Go.RowKit
set_option linter.unusedSimpArgs false
set_option linter.unusedVariables false

theorem rot_long {m i j : Nat} (hij : j < i) (him : i ≤ m) (p : Nat) : swFrom (m - i) m j (rotFrom (m - (i - j)) m (m + j) p) = rotFrom (m - i) m (m + j) p := by
  unfold rotFrom
  repeat' split
  all_goals (unfold swFrom; repeat' split)
  all_goals omega
theorem rot_short {m i j : Nat} (hij : i < j) (him : i ≤ m) (p : Nat) : swFrom (m - i) (m + j - i) i (rotFrom (m - i) m (m + (j - i)) p) = rotFrom (m - i) m (m + j) p := by
  unfold rotFrom
  repeat' split
  all_goals (unfold swFrom; repeat' split)
  all_goals omega
theorem rot_same {m i : Nat} (him : i ≤ m) (p : Nat) : swFrom (m - i) m i p = rotFrom (m - i) m (m + i) p := by
  unfold rotFrom swFrom
  repeat' split
  all_goals omega

set_option maxRecDepth 100000 in
set_option maxHeartbeats 1000000 in
theorem rotate_any (D0 : Row) (g a m b N : Nat) (w : World) (hN : D0.length = N) (hb : Blk w g D0) (ham : a < m) (hmb : m < b) (hbN : b ≤ N) (hN2 : N ≤ 4096) :
    Calls Yba.prog 28 #[.slice (some ⟨g, 0, none⟩) N N, .int .i64 a, .int .i64 m, .int .i64 b, cf] w fun e w' => e = .returned (.tuple #[]) ∧ ∃ D, Blk w' g D ∧ Rot D0 D a m b ∧ w.grownBy w' (some g) := by
  have HN : Hid (D0.length = N) := hN
  clear hN
  obtain ⟨i0, hi0⟩ : ∃ i0 : Nat, i0 = m - a := ⟨_, rfl⟩
  obtain ⟨j0, hj0⟩ : ∃ j0 : Nat, j0 = b - m := ⟨_, rfl⟩
  have ei : (m : Int) - (a : Int) = (i0 : Int) := by omega
  have ej : (b : Int) - (m : Int) = (j0 : Int) := by omega
  have b1 : 1 ≤ i0 := by omega
  have b2 : 1 ≤ j0 := by omega
  have b3 : i0 ≤ m := by omega
  have b4 : m + j0 ≤ N := by omega
  have HI := hid hi0
  have HJ := hid hj0
  clear hi0 hj0
  go_enter Yba.func28, Yba.ntmps28
  go_wp2
  go_loopw [10, 11] (fun vi vj wr => ∃ i j : Nat, vi = .int .i64 i ∧ vj = .int .i64 j ∧ 1 ≤ i ∧ 1 ≤ j ∧ i ≤ m ∧ m + j ≤ N ∧ ∃ D, Hid (D.length = N) ∧ Blk wr g D ∧ Hid (∀ p, el D0 (rotFrom a m b p) = el D (rotFrom (m - i) m (m + j) p)) ∧ w.grownBy wr (some g)) (fun vi vj _ => (intOf vi).toNat + (intOf vj).toNat)
  case atStart => exact ⟨i0, j0, rfl, rfl, b1, b2, b3, b4, D0, HN, hb, fun p => by rw [show m - i0 = a by have := HI.out; omega, show m + j0 = b by have := HJ.out; omega], World.grownBy.refl _ _⟩
  case round =>
    obtain ⟨i, j, rfl, rfl, c1, c2, c3, c4, D, HL, hB, HE, hgr⟩ := hrel
    clear hb ei ej b1 b2 b3 b4
    obtain ⟨A, hA⟩ : ∃ A : Nat, A = m - i := ⟨_, rfl⟩
    have eA : (m : Int) - (i : Int) = (A : Int) := by omega
    rcases Nat.lt_trichotomy i j with hij | hij | hij
    · obtain ⟨B, hBB⟩ : ∃ B : Nat, B = m + j - i := ⟨_, rfl⟩
      have eB : (m : Int) + (j : Int) - (i : Int) = (B : Int) := by omega
      have hne : ((i : Int) != (j : Int)) = true := by simp; omega
      have f1 : A + i ≤ B := by omega
      have f2 : B + i ≤ N := by omega
      have HA := hid hA
      have HBB := hid hBB
      clear hA hBB
      go_wp2_with (go_at_call 29; refine (swap_any D g A B i N _ HL.out (by exact hB) f1 f2 hN2).mono ?_; rintro e w2 ⟨rfl, D2, hL2, hB2, hE2, hg2⟩)
      have HE2 : Hid (∀ p, el D0 (rotFrom a m b p) = el D2 (rotFrom (m - i) m (m + (j - i)) p)) := fun p => by
        rw [HE.out p, hE2, HA.out, HBB.out, rot_short hij c3]
      have hgr2 := hgr.trans hg2
      clear hE2 HE hB hg2 hgr
      go_roundw
      case rel => exact ⟨i, j - i, rfl, by go_num, c1, by omega, c3, by omega, D2, hL2, hB2, HE2, hgr2⟩
      case measure => simp [intOf]; omega
    · subst hij
      have hne : ((i : Int) != (i : Int)) = false := by simp
      have f1 : A + i ≤ m := by omega
      have HA := hid hA
      clear hA
      go_wp2_with (go_at_call 29; refine (swap_any D g A m i N _ HL.out (by exact hB) f1 c4 hN2).mono ?_; rintro e w2 ⟨rfl, D2, hL2, hB2, hE2, hg2⟩)
      go_end0
      exact ⟨rfl, D2, hB2, ⟨by rw [hL2, HN.out], fun p => by rw [hE2, HE.out p, HA.out, rot_same c3]⟩, hgr.trans hg2⟩
    · have hne : ((i : Int) != (j : Int)) = true := by simp; omega
      have f1 : A + j ≤ m := by omega
      have HA := hid hA
      clear hA
      go_wp2_with (go_at_call 29; refine (swap_any D g A m j N _ HL.out (by exact hB) f1 c4 hN2).mono ?_; rintro e w2 ⟨rfl, D2, hL2, hB2, hE2, hg2⟩)
      have HE2 : Hid (∀ p, el D0 (rotFrom a m b p) = el D2 (rotFrom (m - (i - j)) m (m + j) p)) := fun p => by
        rw [HE.out p, hE2, HA.out, rot_long hij c3]
      have hgr2 := hgr.trans hg2
      clear hE2 HE hB hg2 hgr
      go_roundw
      case rel => exact ⟨i - j, j, by go_num, rfl, by omega, c2, by omega, c4, D2, hL2, hB2, HE2, hgr2⟩
      case measure => simp [intOf]; omega
end Go.Proofs.Ybulkbaiq
