/- slices.swapRangeCmpFunc (29): two stretches change places. -/
import Derived.Test.YbulkbaiqCmp
namespace Go.Proofs.Ybulkbaiq
open Go.RowKit
set_option linter.unusedSimpArgs false
set_option linter.unusedVariables false

theorem hid {p : Prop} (h : p) : Hid p := h
theorem wrapS {n : Int} (h1 : -4096 ≤ n) (h2 : n ≤ 1000000) : IntKind.i64.wrap n = n := by
  simp [IntKind.wrap, IntKind.signed, IntKind.bits]
  omega
/-- The comparing closure, as a value. -/
abbrev cf : Value := .func (.func 18) #[] #[]

/-- A call of the comparing closure, at the operation. -/
theorem wp_less_to {o : Oper} {a : Act} {w : World} {K : Act → World → Prop} {Q : Exit → Act → World → Prop} (x0 x1 x2 : Operand) (d : Tmp)
    (ho : o.op = Op.call { callee := Callee.value x0, args := #[x1, x2], argTypes := #[68, 68] }) (hd : o.dst = some d) (e1 e2 : Int × Int)
    (h0 : a.eval x0 = cf) (h1 : a.eval x1 = .agg (cellsE e1).toArray) (h2 : a.eval x2 = .agg (cellsE e2).toArray)
    (h : ∀ w', w.grownBy w' none → K (a.put (some d) (.int .i64 (cmpI e1.1 e2.1))) w') : o.wp Yba.prog a w K Q := by
  have hrun : (execOp a.eval o).run Yba.prog w = .ok (.enter 18 #[.agg (cellsE e1).toArray, .agg (cellsE e2).toArray]) w := by
    unfold execOp
    simp [ho, resolve, invoke, h0, h1, h2]
    generalize (cellsE e1).toArray = X
    generalize (cellsE e2).toArray = Y
    kernel_rfl
  unfold Oper.wp
  rw [hrun, Oper.upon_enter]
  refine (less_any e1 e2 w).mono fun e w' hh => ?_
  obtain ⟨rfl, hg⟩ := hh
  show K (a.put o.dst _) w'
  rw [hd]
  exact h w' hg

/-- Where the element at place p comes from when the stretches a..a+n and b..b+n have changed places. -/
def swFrom (a b n p : Nat) : Nat := if a ≤ p ∧ p < a + n then p - a + b else if b ≤ p ∧ p < b + n then p - b + a else p

theorem sw_step {D0 D : Row} {a b i n : Nat} (h : ∀ p, el D p = el D0 (swFrom a b i p)) (hl : b + n ≤ D.length) (hab : a + n ≤ b) (hi : i < n) :
    ∀ p, el ((D.set (a + i) (el D (b + i))).set (b + i) (el D (a + i))) p = el D0 (swFrom a b (i + 1) p) := by
  intro p
  by_cases e1 : p = b + i
  · subst e1
    rw [el_set_eq _ (by simp; omega), h]
    congr 1
    unfold swFrom
    repeat' split
    all_goals omega
  · rw [el_set_ne _ (fun e => e1 e.symm)]
    by_cases e2 : p = a + i
    · subst e2
      rw [el_set_eq _ (by omega), h]
      congr 1
      unfold swFrom
      repeat' split
      all_goals omega
    · rw [el_set_ne _ (fun e => e2 e.symm), h]
      congr 1
      unfold swFrom
      repeat' split
      all_goals omega

set_option maxRecDepth 100000 in
set_option maxHeartbeats 1000000 in
theorem swap_any (D0 : Row) (g a b n N : Nat) (w : World) (hN : D0.length = N) (hb : Blk w g D0) (hab : a + n ≤ b) (hbn : b + n ≤ N) (hN2 : N ≤ 4096) :
    Calls Yba.prog 29 #[.slice (some ⟨g, 0, none⟩) N N, .int .i64 a, .int .i64 b, .int .i64 n, cf] w fun e w' => e = .returned (.tuple #[]) ∧ ∃ D, D.length = N ∧ Blk w' g D ∧ (∀ p, el D p = el D0 (swFrom a b n p)) ∧ w.grownBy w' (some g) := by
  have HN : Hid (D0.length = N) := hN
  clear hN
  go_enter Yba.func29, Yba.ntmps29
  go_wp2
  go_loopw [10] (fun v wr => ∃ i : Nat, i ≤ n ∧ v = .int .i64 i ∧ ∃ D, Hid (D.length = N) ∧ Blk wr g D ∧ Hid (∀ p, el D p = el D0 (swFrom a b i p)) ∧ w.grownBy wr (some g)) (fun v _ => n - (intOf v).toNat)
  case atStart => exact ⟨0, Nat.zero_le _, rfl, D0, HN, hb, fun p => by rw [swFrom, if_neg (by omega), if_neg (by omega)], World.grownBy.refl _ _⟩
  case round =>
    obtain ⟨i, hi, rfl, D, HL, hB, HE, hgr⟩ := hrel
    clear hb
    by_cases hlt : i < n
    · obtain ⟨A, hA⟩ : ∃ A : Nat, A = a + i := ⟨_, rfl⟩
      obtain ⟨B, hBB⟩ : ∃ B : Nat, B = b + i := ⟨_, rfl⟩
      have eA : (a : Int) + (i : Int) = (A : Int) := by omega
      have eB : (b : Int) + (i : Int) = (B : Int) := by omega
      have hA1 : A < N := by omega
      have hB1 : B < N := by omega
      have hA2 : (A : Int) < (N : Int) := by omega
      have hB2 : (B : Int) < (N : Int) := by omega
      have wA : IntKind.i64.wrap (A : Int) = (A : Int) := wrapS (by omega) (by omega)
      have wB : IntKind.i64.wrap (B : Int) = (B : Int) := wrapS (by omega) (by omega)
      have HA := hid hA
      have HBB := hid hBB
      clear hA hBB
      have hlA : A < D.length := by rw [HL.out]; exact hA1
      have hlB : B < D.length := by rw [HL.out]; exact hB1
      go_wp2
      refine wp_region_held_drew (S := fun _ => True) (by kernel_rfl) trivial (fun hHeld => ?_)
      refine take_to 0 16 (.slice (some ⟨g, 0, none⟩) N N) rfl rfl (by kernel_rfl) (by kernel_rfl) (by kernel_rfl) (fun _ _ _ h => h) (Or.inl ⟨by rfl, by intro w' hSw; go_simp⟩) (by first | trivial | assumption) ?_
      simp only [Act.put, List.setIfInBounds_toArray, List.set_cons_zero, List.set_cons_succ]
      refine take_to 1 17 (.int .i64 (a : Int)) rfl rfl (by kernel_rfl) (by kernel_rfl) (by kernel_rfl) (fun _ _ _ h => h) (Or.inl ⟨by rfl, by intro w' hSw; go_simp⟩) (by first | trivial | assumption) ?_
      simp only [Act.put, List.setIfInBounds_toArray, List.set_cons_zero, List.set_cons_succ]
      refine take_to 2 18 (.int .i64 (i : Int)) rfl rfl (by kernel_rfl) (by kernel_rfl) (by kernel_rfl) (fun _ _ _ h => h) (Or.inl ⟨by rfl, by intro w' hSw; go_simp⟩) (by first | trivial | assumption) ?_
      simp only [Act.put, List.setIfInBounds_toArray, List.set_cons_zero, List.set_cons_succ]
      refine take_to 3 19 (.int .i64 (A : Int)) rfl rfl (by kernel_rfl) (by kernel_rfl) (by kernel_rfl) (fun _ _ _ h => h) (Or.inl ⟨by rfl, by intro w' hSw; go_simp⟩) (by first | trivial | assumption) ?_
      simp only [Act.put, List.setIfInBounds_toArray, List.set_cons_zero, List.set_cons_succ]
      refine take_to 4 20 (.slice (some ⟨g, 0, none⟩) N N) rfl rfl (by kernel_rfl) (by kernel_rfl) (by kernel_rfl) (fun _ _ _ h => h) (Or.inl ⟨by rfl, by intro w' hSw; go_simp⟩) (by first | trivial | assumption) ?_
      simp only [Act.put, List.setIfInBounds_toArray, List.set_cons_zero, List.set_cons_succ]
      refine take_to 5 21 (.int .i64 (b : Int)) rfl rfl (by kernel_rfl) (by kernel_rfl) (by kernel_rfl) (fun _ _ _ h => h) (Or.inl ⟨by rfl, by intro w' hSw; go_simp⟩) (by first | trivial | assumption) ?_
      simp only [Act.put, List.setIfInBounds_toArray, List.set_cons_zero, List.set_cons_succ]
      refine take_to 6 22 (.int .i64 (i : Int)) rfl rfl (by kernel_rfl) (by kernel_rfl) (by kernel_rfl) (fun _ _ _ h => h) (Or.inl ⟨by rfl, by intro w' hSw; go_simp⟩) (by first | trivial | assumption) ?_
      simp only [Act.put, List.setIfInBounds_toArray, List.set_cons_zero, List.set_cons_succ]
      refine take_to 7 23 (.int .i64 (B : Int)) rfl rfl (by kernel_rfl) (by kernel_rfl) (by kernel_rfl) (fun _ _ _ h => h) (Or.inl ⟨by rfl, by intro w' hSw; go_simp⟩) (by first | trivial | assumption) ?_
      simp only [Act.put, List.setIfInBounds_toArray, List.set_cons_zero, List.set_cons_succ]
      refine take_to 8 24 (.slice (some ⟨g, 0, none⟩) N N) rfl rfl (by kernel_rfl) (by kernel_rfl) (by kernel_rfl) (fun _ _ _ h => h) (Or.inl ⟨by rfl, by intro w' hSw; go_simp⟩) (by first | trivial | assumption) ?_
      simp only [Act.put, List.setIfInBounds_toArray, List.set_cons_zero, List.set_cons_succ]
      refine take_to 9 25 (.int .i64 (b : Int)) rfl rfl (by kernel_rfl) (by kernel_rfl) (by kernel_rfl) (fun _ _ _ h => h) (Or.inl ⟨by rfl, by intro w' hSw; go_simp⟩) (by first | trivial | assumption) ?_
      simp only [Act.put, List.setIfInBounds_toArray, List.set_cons_zero, List.set_cons_succ]
      refine take_to 10 26 (.int .i64 (i : Int)) rfl rfl (by kernel_rfl) (by kernel_rfl) (by kernel_rfl) (fun _ _ _ h => h) (Or.inl ⟨by rfl, by intro w' hSw; go_simp⟩) (by first | trivial | assumption) ?_
      simp only [Act.put, List.setIfInBounds_toArray, List.set_cons_zero, List.set_cons_succ]
      refine take_to 11 27 (.int .i64 (B : Int)) rfl rfl (by kernel_rfl) (by kernel_rfl) (by kernel_rfl) (fun _ _ _ h => h) (Or.inl ⟨by rfl, by intro w' hSw; go_simp⟩) (by first | trivial | assumption) ?_
      simp only [Act.put, List.setIfInBounds_toArray, List.set_cons_zero, List.set_cons_succ]
      refine take_to 12 28 (.pointer (some ⟨g, B * 33, none⟩)) rfl rfl (by kernel_rfl) (by kernel_rfl) (by kernel_rfl) (fun _ _ _ h => h) (Or.inl ⟨by rfl, by intro w' hSw; go_simp⟩) (by first | trivial | assumption) ?_
      simp only [Act.put, List.setIfInBounds_toArray, List.set_cons_zero, List.set_cons_succ]
      refine take_to 14 30 (.slice (some ⟨g, 0, none⟩) N N) rfl rfl (by kernel_rfl) (by kernel_rfl) (by kernel_rfl) (fun _ _ _ h => h) (Or.inl ⟨by rfl, by intro w' hSw; go_simp⟩) (by first | trivial | assumption) ?_
      simp only [Act.put, List.setIfInBounds_toArray, List.set_cons_zero, List.set_cons_succ]
      refine take_to 15 31 (.int .i64 (a : Int)) rfl rfl (by kernel_rfl) (by kernel_rfl) (by kernel_rfl) (fun _ _ _ h => h) (Or.inl ⟨by rfl, by intro w' hSw; go_simp⟩) (by first | trivial | assumption) ?_
      simp only [Act.put, List.setIfInBounds_toArray, List.set_cons_zero, List.set_cons_succ]
      refine take_to 16 32 (.int .i64 (i : Int)) rfl rfl (by kernel_rfl) (by kernel_rfl) (by kernel_rfl) (fun _ _ _ h => h) (Or.inl ⟨by rfl, by intro w' hSw; go_simp⟩) (by first | trivial | assumption) ?_
      simp only [Act.put, List.setIfInBounds_toArray, List.set_cons_zero, List.set_cons_succ]
      refine take_to 17 33 (.int .i64 (A : Int)) rfl rfl (by kernel_rfl) (by kernel_rfl) (by kernel_rfl) (fun _ _ _ h => h) (Or.inl ⟨by rfl, by intro w' hSw; go_simp⟩) (by first | trivial | assumption) ?_
      simp only [Act.put, List.setIfInBounds_toArray, List.set_cons_zero, List.set_cons_succ]
      refine take_to 18 34 (.pointer (some ⟨g, A * 33, none⟩)) rfl rfl (by kernel_rfl) (by kernel_rfl) (by kernel_rfl) (fun _ _ _ h => h) (Or.inl ⟨by rfl, by intro w' hSw; go_simp⟩) (by first | trivial | assumption) ?_
      simp only [Act.put, List.setIfInBounds_toArray, List.set_cons_zero, List.set_cons_succ]
      refine two_loads 13 19 29 35 rfl rfl rfl rfl rfl rfl (by decide) (by decide) (.tmp 28) (.tmp 34) rfl rfl (fun _ => rfl) (fun _ => rfl) g (B * 33) (A * 33) (cellsE (el D B)) (cellsE (el D A)) (cellsE_length _) (cellsE_length _) rfl rfl (by exact hB.range hlB) (by exact hB.range hlA) (by kernel_rfl) (by kernel_rfl) (by kernel_rfl) ?_
      simp only [Act.put, List.setIfInBounds_toArray, List.set_cons_zero, List.set_cons_succ]
      refine take_to 20 36 (.pointer (some ⟨g, A * 33, none⟩)) rfl rfl (by kernel_rfl) (by kernel_rfl) (by kernel_rfl) (fun _ _ _ h => h) (Or.inl ⟨by rfl, by intro w' hSw; go_simp⟩) (by first | trivial | assumption) ?_
      simp only [Act.put, List.setIfInBounds_toArray, List.set_cons_zero, List.set_cons_succ]
      refine wpAnyH_ready (rs := [21]) (by kernel_rfl) (by simp) (AllReadyH.cons rfl (fun K hK => ?_) AllReadyH.nil)
      rw [if_pos (by rfl)]
      refine wp_put_to (.tmp 36) (.tmp 29) (by rfl) (by rfl) g (A) (D) (el D B) (by rfl) (by rfl) (by exact hB) (hlA) ?_
      intro w2 hC1 hg1
      refine hK.out _ _ trivial (fun _ => ?_)
      clear hK K
      refine take_to 22 37 (.pointer (some ⟨g, B * 33, none⟩)) rfl rfl (by kernel_rfl) (by kernel_rfl) (by kernel_rfl) (fun _ _ _ h => h) (Or.inl ⟨by rfl, by intro w' hSw; go_simp⟩) (by first | trivial | assumption) ?_
      simp only [Act.put, List.setIfInBounds_toArray, List.set_cons_zero, List.set_cons_succ]
      refine wpAnyH_ready (rs := [23]) (by kernel_rfl) (by simp) (AllReadyH.cons rfl (fun K hK => ?_) AllReadyH.nil)
      rw [if_pos (by rfl)]
      refine wp_put_to (.tmp 37) (.tmp 35) (by rfl) (by rfl) g (B) (D.set A (el D B)) (el D A) (by rfl) (by rfl) (by exact hC1) (by rw [List.length_set]; exact hlB) ?_
      intro w3 hC2 hg2
      refine hK.out _ _ trivial (fun _ => ?_)
      clear hK K
      refine wpAnyH_done (by kernel_rfl) ?_ _
      have hgr3 := (hgr.trans (grown_drew wr _)).trans (hg1.trans hg2)
      have HE2 := hid (sw_step HE.out (by rw [HL.out]; exact hbn) hab hlt)
      have HL2 : Hid (((D.set A (el D B)).set B (el D A)).length = N) := by
        have := HL.out
        show ((D.set A (el D B)).set B (el D A)).length = N
        simpa using this
      rw [← HA.out, ← HBB.out] at HE2
      clear hC1 hg1 hg2 hB HE hgr
      go_wp2
      go_roundw
      case rel => exact ⟨i + 1, by omega, by go_num, _, HL2, hC2, HE2, hgr3⟩
      case measure => simp [intOf]; omega
    · obtain rfl : i = n := by omega
      go_wp2
      go_end0
      exact ⟨rfl, D, HL.out, hB, HE.out, hgr⟩
end Go.Proofs.Ybulkbaiq
