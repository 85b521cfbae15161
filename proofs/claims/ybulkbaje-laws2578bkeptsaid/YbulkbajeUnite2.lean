/- unite (36): the walk. -/
import Derived.Test.YbulkbajeUnite
namespace Go.Proofs.Ybulkbaje
open Go.RowKit
set_option linter.unusedSimpArgs false
set_option linter.unusedVariables false

theorem wrapS {n : Int} (h1 : -4096 ≤ n) (h2 : n ≤ 1000000) : IntKind.i64.wrap n = n := by
  simp [IntKind.wrap, IntKind.bits, IntKind.signed]; omega
theorem grown_drew {w w' : World} {r : Option Nat} (h : w.grownBy w' r) (n : Nat) : w.grownBy (w'.drewN n) r := ⟨h.os, h.tape, h.output, h.size, h.block⟩
theorem grown_alloc {w w' : World} {r : Option Nat} (h : w.grownBy w' r) (o : Obj) : w.grownBy (w'.alloc o) r := h.trans (World.grownBy_alloc w' o r)
theorem add_app {O : List (Int × Int)} {s : Int × Int} (h : 0 < O.length → ¬ s.1 ≤ (O.getD (O.length - 1) (0, 0)).2 + 1) : addS O s = O ++ [s] := by
  unfold addS
  rw [if_neg (fun hc => h hc.1 hc.2)]
theorem add_touch {O : List (Int × Int)} {s : Int × Int} (h0 : 0 < O.length) (h : s.1 ≤ (O.getD (O.length - 1) (0, 0)).2 + 1) : addS O s = O.set (O.length - 1) ((O.getD (O.length - 1) (0, 0)).1, max (O.getD (O.length - 1) (0, 0)).2 s.2) := by
  unfold addS
  rw [if_pos ⟨h0, h⟩]
/-- What one round keeps, where it appends. -/
theorem round_app {cs : List Value} {O T : List (Int × Int)} {s : Int × Int} {i m n cap : Nat} {U : List (Int × Int)} (hU : O.length = m) (hX : U = addS O s) (hc : cs.length = cap * 2) (hnc : n ≤ cap) (hmi : m ≤ i) (hi : i < n) (hO : At cs O 0 m) (hT : At cs T i n)
    (h : 0 < O.length → ¬ s.1 ≤ (O.getD (O.length - 1) (0, 0)).2 + 1) : ((cs.set (m * 2) (.int .u64 s.1)).set (m * 2 + 1) (.int .u64 s.2)).length = cap * 2 ∧ U.length = m + 1 ∧ At ((cs.set (m * 2) (.int .u64 s.1)).set (m * 2 + 1) (.int .u64 s.2)) U 0 (m + 1) ∧ At ((cs.set (m * 2) (.int .u64 s.1)).set (m * 2 + 1) (.int .u64 s.2)) T (i + 1) n := by
  subst hU
  rw [hX, add_app h]
  refine ⟨by simp [hc], by simp, hO.app (by omega), ((hT.mono (Nat.le_succ i)).set _ (by omega)).set _ (by omega)⟩
/-- What one round keeps, where it touches the last. -/
theorem round_touch {cs : List Value} {O T : List (Int × Int)} {s y : Int × Int} {i m n M cap : Nat} {U : List (Int × Int)} (hU : O.length = m) (hX : U = addS O s) (hc : cs.length = cap * 2) (hnc : n ≤ cap) (hmi : m ≤ i) (hi : i < n) (hO : At cs O 0 m) (hT : At cs T i n)
    (hM : m = M + 1) (hy : O.getD M (0, 0) = y) (h : s.1 ≤ y.2 + 1) : (cs.set (M * 2 + 1) (.int .u64 (max y.2 s.2))).length = cap * 2 ∧ U.length = m ∧ At (cs.set (M * 2 + 1) (.int .u64 (max y.2 s.2))) U 0 m ∧ At (cs.set (M * 2 + 1) (.int .u64 (max y.2 s.2))) T (i + 1) n := by
  subst hU
  have e : O.length - 1 = M := by omega
  have ht := hO.touch (h' := max y.2 s.2) hM (by omega)
  rw [hX, add_touch (by omega) (by rw [e, hy]; exact h)]
  rw [e, hy] at ht ⊢
  exact ⟨by simp [hc], by simp, ht, (hT.mono (Nat.le_succ i)).set _ (by omega)⟩

set_option maxRecDepth 100000 in
set_option maxHeartbeats 4000000 in
theorem unite_any (S : List (Int × Int)) (g cap : Nat) (more : List Value) (w : World) (hr : Row w g (flatS S ++ more) 57) (hl : (flatS S ++ more).length = cap * 2) (hSm : Sm S) (hn : S.length ≤ 100000) :
    Calls Yba.prog 36 #[.slice (some ⟨g, 0, none⟩) S.length cap] w fun e w' => ∃ m T, e = .returned (.slice (some ⟨g, 0, none⟩) m cap) ∧ T.Perm S ∧ Asc T ∧ m ≤ 100000 ∧ ArgT w' (some ⟨g, 0, none⟩) m (uniteS T) ∧ w.grownBy w' (some g) := by
  have hsort := sort_any S g cap more w hr hn
  have HS : Hid (Sm S) := hSm
  have HL0 : Hid (S.length * 2 + more.length = cap * 2) := by
    show S.length * 2 + more.length = cap * 2
    rw [List.length_append, flatS_length] at hl
    exact hl
  have HN : Hid (∃ n, S.length = n ∧ n ≤ 100000) := ⟨_, rfl, hn⟩
  clear hr hl hSm hn
  obtain ⟨n, eN, hn⟩ := HN.out
  have HE := hide eN
  rw [eN] at hsort ⊢
  clear HN eN
  go_enter Yba.func36, Yba.ntmps36
  go_wp2_with (go_at_call 45; refine hsort.mono ?_; rintro e w1 ⟨rfl, T, hp, ha, hr1, hg1⟩)
  have HP := hide hp
  have HA := hide ha
  have HT : Hid (T.length = n) := by show T.length = n; rw [hp.length_eq]; exact HE.out
  have HST : Hid (Sm T) := fun s hs => HS.out s (hp.mem_iff.1 hs)
  have HAt := hide (At.ofFlat T more)
  have HL1 : Hid ((flatS T ++ more).length = cap * 2) := by
    show (flatS T ++ more).length = cap * 2
    rw [List.length_append, flatS_length, HT.out, ← HE.out]; exact HL0.out
  have HNC : Hid (n ≤ cap) := by
    show n ≤ cap
    have := HL0.out
    rw [HE.out] at this
    omega
  rw [HT.out] at HAt
  generalize flatS T ++ more = cs1 at hr1 HAt HL1
  clear hp ha hsort
  go_wp2
  go_loopw [3, 13] (fun v vi wr => ∃ i m : Nat, vi = .int .i64 i ∧ v = .slice (some ⟨g, 0, none⟩) m cap ∧ i ≤ n ∧ m ≤ i ∧ ∃ cs, Row wr g cs 57 ∧ Hid (cs.length = cap * 2) ∧ Hid ((uniteS (T.take i)).length = m) ∧ Hid (At cs (uniteS (T.take i)) 0 m) ∧ Hid (At cs T i n) ∧ w.grownBy wr (some g)) (fun _ vi _ => n - (intOf vi).toNat)
  case atStart => exact ⟨0, 0, rfl, rfl, Nat.zero_le _, Nat.le_refl _, cs1, hr1, HL1, rfl, fun t h1 h2 => by omega, HAt, hg1⟩
  case round =>
    clear hr1 HL1 HAt hg1 cs1
    obtain ⟨i, m, rfl, rfl, hin, hmi, cs, hr, HCL, HU, HO, HTi, hgr⟩ := hrel
    by_cases hi0 : i < n
    · have hc := HTi.out i (Nat.le_refl _) hi0
      have c0 := hr.cell hc.1
      have c1 := hr.cell hc.2
      have hsb := HST.out.get i
      have HX := hide (uniteS_take T i (by rw [HT.out]; exact hi0))
      have HSU := hide (HST.out.unite i)
      have hiz : (i : Int) < (n : Int) := by omega
      have hlt := hr.lt
      clear hc
      generalize T.getD i (0, 0) = s at c0 c1 hsb HX
      generalize uniteS (T.take i) = O at HU HO HX HSU
      rcases Nat.eq_zero_or_pos m with hz | hpos
      · subst hz
        go_wp2
        go_quiet (fail)
        go_wp2_with (refine wpList_app57 rfl (.tmp 47) (.tmp 49) rfl g 0 cap (wr.heap.size + 1) s.1 s.2 rfl rfl cs ?q1 HCL.out ?q2 ?q3 ?_)
        case q1 => exact row_alloc (row_alloc hr _) _
        case q2 => have := HNC.out; omega
        case q3 =>
          have := row_new ((wr.alloc (.cells #[.int .u64 s.1, .int .u64 s.2] 57)).drewN nq) [.int .u64 s.1, .int .u64 s.2] 57
          simpa using this
        intro w9 hr9 hg9
        obtain ⟨k1, k2, k3, k4⟩ := round_app HU.out HX.out HCL.out HNC.out hmi hi0 HO.out HTi.out (fun h => by rw [HU.out] at h; omega)
        have K1 := hide k1
        have K2 := hide k2
        have K3 := hide k3
        have K4 := hide k4
        have hgr9 := (grown_alloc (grown_drew (grown_alloc hgr _) nq) _).trans hg9
        clear k1 k2 k3 k4 hg9 hgr c0 c1 hr
        go_wp2
        go_roundw
        case rel => exact ⟨i + 1, 0 + 1, by go_num, rfl, by omega, by omega, _, hr9, K1, K2, K3, K4, hgr9⟩
        case measure => simp [intOf]; omega
      · obtain ⟨M, hM⟩ : ∃ M : Nat, m = M + 1 := ⟨m - 1, by omega⟩
        have eM : (m : Int) - 1 = (M : Int) := by omega
        have wM : IntKind.i64.wrap (M : Int) = (M : Int) := wrapS (by omega) (by omega)
        have f1 : (M : Int) < (m : Int) := by omega
        have f2 : (0 : Int) < (m : Int) := by omega
        have c2 := hr.cell (HO.out M (Nat.zero_le _) (by omega)).2
        have hfr2 := hr.frozen (j := M * 2 + 1)
        have hyb := HSU.out.get M
        generalize hy : O.getD M (0, 0) = y at c2 hyb
        have HY := hide hy
        clear hy
        have wy : IntKind.u64.wrap (y.2 + 1) = y.2 + 1 := by simp [IntKind.wrap, IntKind.bits, IntKind.signed]; omega
        have HM := hide hM
        clear hM
        by_cases ht : s.1 ≤ y.2 + 1
        · obtain ⟨k1, k2, k3, k4⟩ := round_touch HU.out HX.out HCL.out HNC.out hmi hi0 HO.out HTi.out HM.out HY.out ht
          have K1 := hide k1
          have K2 := hide k2
          have K3 := hide k3
          have K4 := hide k4
          clear k1 k2 k3 k4
          go_wp2
          go_quiet (fail)
          go_wp2
          go_region
          have hr9 := (setCells_block g 57 [.int .u64 (max y.2 s.2)] (M * 2 + 1) cs ((wr.alloc (.cells #[.int .u64 s.1, .int .u64 s.2] 57)).drewN (nq + 1)) (row_alloc hr _)).1
          have hg9 := (setCells_block g 57 [.int .u64 (max y.2 s.2)] (M * 2 + 1) cs ((wr.alloc (.cells #[.int .u64 s.1, .int .u64 s.2] 57)).drewN (nq + 1)) (row_alloc hr _)).2
          have hgr9 := (grown_drew (grown_alloc hgr _) (nq + 1)).trans hg9
          clear hg9 hgr c0 c1 c2 hr
          go_wp2
          go_roundw
          case rel => exact ⟨i + 1, m, by go_num, rfl, by omega, by omega, _, hr9, K1, K2, K3, K4, hgr9⟩
          case measure => simp [intOf]; omega
        · have ht' : decide (s.1 ≤ y.2 + 1) = false := by simp; omega
          go_wp2
          go_quiet (fail)
          go_wp2_with (refine wpList_app57 rfl (.tmp 47) (.tmp 49) rfl g m cap (wr.heap.size + 1) s.1 s.2 rfl rfl cs ?q1 HCL.out ?q2 ?q3 ?_)
          case q1 => exact row_alloc (row_alloc hr _) _
          case q2 => have := HNC.out; omega
          case q3 =>
            have := row_new ((wr.alloc (.cells #[.int .u64 s.1, .int .u64 s.2] 57)).drewN nq) [.int .u64 s.1, .int .u64 s.2] 57
            simpa using this
          intro w9 hr9 hg9
          obtain ⟨k1, k2, k3, k4⟩ := round_app HU.out HX.out HCL.out HNC.out hmi hi0 HO.out HTi.out (fun h => by
            have e : O.length - 1 = M := by rw [HU.out, HM.out, Nat.add_sub_cancel]
            rw [e, HY.out]
            omega)
          have K1 := hide k1
          have K2 := hide k2
          have K3 := hide k3
          have K4 := hide k4
          have hgr9 := (grown_alloc (grown_drew (grown_alloc hgr _) nq) _).trans hg9
          clear k1 k2 k3 k4 hg9 hgr c0 c1 c2 hr
          go_wp2
          go_roundw
          case rel => exact ⟨i + 1, m + 1, by go_num, rfl, by omega, by omega, _, hr9, K1, K2, K3, K4, hgr9⟩
          case measure => simp [intOf]; omega
    · obtain rfl : i = n := by omega
      have hfull : T.take i = T := List.take_of_length_le (by rw [HT.out]; exact Nat.le_refl _)
      have HU2 := hide HU.out
      have HO2 := hide HO.out
      rw [hfull] at HU2 HO2
      clear HU HO hfull
      go_wp2
      go_ret
      exact ⟨m, T, rfl, HP.out, HA.out, by omega, ⟨HU2.out, fun _ => ⟨g, cs, rfl, hr, HO2.out⟩⟩, hgr⟩
end Go.Proofs.Ybulkbaje
