/- listed (21), partsOf (18). -/
import Derived.Test.YbulkbajeUnite2
namespace Go.Proofs.Ybulkbaje
open Go.RowKit
set_option linter.unusedSimpArgs false
set_option linter.unusedVariables false

set_option maxHeartbeats 1000000 in
theorem unite_nil (w : World) : Calls Yba.prog 36 #[.slice none 0 0] w fun e w' => e = .returned (.slice none 0 0) ∧ w' = w := by
  go_enter Yba.func36, Yba.ntmps36
  go_wp2_with (go_at_call 45; refine (sort_nil _ _ _ _).mono ?_; rintro e w1 ⟨rfl, rfl⟩)
  go_loop [3, 13] (fun v vi => v = .slice none 0 0 ∧ vi = .int .i64 0) (fun _ _ => 0)
  case atStart => exact ⟨rfl, rfl⟩
  case round =>
    obtain ⟨rfl, rfl⟩ := hrel
    go_wp2
    go_ret
    exact ⟨rfl, rfl⟩

theorem argT_row {w : World} {g : Nat} {S : List (Int × Int)} {more : List Value} (h : Row w g (flatS S ++ more) 57) : ArgT w (some ⟨g, 0, none⟩) S.length S := ⟨rfl, fun _ => ⟨g, _, rfl, h, At.ofFlat S more⟩⟩
/-- An owned row of spans: nil and none, or a block. -/
theorem owns_row57 {w : World} {base : Nat} {v : Value} {n : Nat} {S : List (Int × Int)} (h : w.ownsRow base 57 2 v n (flatS S)) : (v = .slice none 0 0 ∧ S = []) ∨ ∃ g cap more, v = .slice (some ⟨g, 0, none⟩) S.length cap ∧ base ≤ g ∧ Row w g (flatS S ++ more) 57 ∧ (flatS S ++ more).length = cap * 2 := by
  have hl : S.length = n := by have := h.1; rw [flatS_length] at this; omega
  rcases h.2 with ⟨rfl, h0⟩ | ⟨g, cap, cur, rfl, hb, hg, hnc, hcm, hsz, htake⟩
  · exact .inl ⟨rfl, List.eq_nil_of_length_eq_zero (by omega)⟩
  · refine .inr ⟨g, cap, cur.toList.drop (n * 2), by rw [hl], hb, ?_, ?_⟩
    · unfold Row
      rw [hg, ← htake, List.take_append_drop]
    · rw [← htake, List.take_append_drop, Array.length_toList, hsz]
theorem take_flat (Ss : List (List (Int × Int))) (i : Nat) (h : i < Ss.length) : (Ss.take (i + 1)).flatten = (Ss.take i).flatten ++ Ss.getD i [] := by
  rw [List.take_succ_eq_append_getElem h, List.flatten_append]
  simp [h]
theorem take_flat_le (Ss : List (List (Int × Int))) (i : Nat) : (Ss.take i).flatten.length ≤ Ss.flatten.length := by
  conv => rhs; rw [← List.take_append_drop i Ss]
  rw [List.flatten_append, List.length_append]
  omega
theorem getD_mem {α : Type} (l : List α) (i : Nat) (d : α) (h : i < l.length) : l.getD i d ∈ l := by
  have : l.getD i d = l[i] := by simp [h]
  rw [this]
  exact List.getElem_mem h

theorem assert31 (v : Value) (xT : TypeId) (w : World) : (Instr.typeAssert (.iface 31 v) xT 31 true).run Yba.prog w = .ok (.tuple #[v, .bool true]) w := by
  simp [Instr.typeAssert, run_underlying Yba.underlying31]
attribute [local go_sem] assert31
def ListEnd (Ss : List (List (Int × Int))) (w : World) (e : Ending) (w' : World) : Prop :=
  ∃ a m c U, e = .returned (.tuple #[.slice a m c, .bool true]) ∧ m ≤ 100000 ∧ ArgT w' a m U ∧ (∀ x, hasB U x = hasB Ss.flatten x) ∧ Below w.heap.size w w'

set_option maxRecDepth 100000 in
set_option maxHeartbeats 4000000 in
theorem listed_any (Ss : List (List (Int × Int))) (v : Value) (w : World) (h : Rests w v Ss) (hpos : 0 < Ss.length) (hN : Ss.length ≤ 70000) (hSm : Sm Ss.flatten) (hF : Ss.flatten.length ≤ 100000) :
    Calls Yba.prog 21 #[v] w fun e w' => ListEnd Ss w e w' := by
  obtain ⟨i2, ji, jz0, jz1, jz2⟩ := info_parts info57
  obtain ⟨g, c, us, more, rfl, hr, hlen, hcm, hv⟩ := h
  have HV := hide hv
  have HU : Hid (us.length = Ss.length) := hv.1
  have HSM := hide hSm
  have HF := hide hF
  have HR := hide hr
  obtain ⟨u0, eu0, h0, s0, rfl, r1, r2⟩ := hv.2 0 hpos
  have c0 : w.cell? ⟨g, 0, none⟩ = some (.slice (some ⟨h0, 0, none⟩) 1 1) := hr.cell (by rw [List.getElem?_append_left (by rw [hv.1]; exact hpos)]; exact eu0)
  have c1 := r1.cell (j := 0) rfl
  have HR2 := hide r2
  clear hSm hF hv hr eu0 r1 r2
  by_cases h1 : Ss.length = 1
  · obtain ⟨S, rfl⟩ := List.length_eq_one_iff.1 h1
    go_enter Yba.func21, Yba.ntmps21
    go_wp2
    go_ret2
    refine ⟨_, _, _, S, rfl, ?_, argT_row (more := []) (by rw [List.append_nil]; exact HR2.out), fun x => by simp, Below.refl _ _⟩
    have := HF.out
    simpa using this
  · have hne : ((Ss.length : Int) == 1) = false := by rw [beq_eq_false_iff_ne]; omega
    have HPL : Hid (∃ N, Ss.length = N ∧ 1 ≤ N ∧ N ≤ 70000) := ⟨_, rfl, hpos, hN⟩
    obtain ⟨N, eN, hN1, hN2⟩ := HPL.out
    have HE := hide eN
    generalize (Ss.getD 0 []).length = q0 at c1
    rw [eN] at hne ⊢
    clear HPL eN hpos hN h1 HR2
    go_enter Yba.func21, Yba.ntmps21
    go_wp2
    go_loopw [6, 36] (fun v vi wr => ∃ i k : Nat, vi = .int .i64 i ∧ i ≤ N ∧ k ≤ 100000 ∧ wr.ownsRow w.heap.size 57 2 v k (flatS (Ss.take i).flatten) ∧ Hid ((Ss.take i).flatten.length = k) ∧ Below w.heap.size w wr) (fun _ vi _ => N - (intOf vi).toNat)
    case atStart => exact ⟨0, 0, rfl, Nat.zero_le _, Nat.zero_le _, World.ownsRow_nil _ _ _ _, rfl, Below.refl _ _⟩
    case round =>
      obtain ⟨i, k, rfl, hiN, hk, hown, HK, hbel⟩ := hrel
      clear c0 c1 hne
      by_cases hi0 : i < N
      · obtain ⟨u, eu, hh, ss, rfl, r1, r2⟩ := HV.out.2 i (by rw [HE.out]; exact hi0)
        have hlt := HR.out.lt
        have c0 : wr.cell? ⟨g, i, none⟩ = some (.slice (some ⟨hh, 0, none⟩) 1 1) := (HR.out.below hbel).cell (by rw [List.getElem?_append_left (by rw [HU.out, HE.out]; exact hi0)]; exact eu)
        have c1 := (r1.below hbel).cell (j := 0) rfl
        have hr2 := r2.below hbel
        have hiz : (i : Int) < (N : Int) := by omega
        have HT := hide (take_flat Ss i (by rw [HE.out]; exact hi0))
        have HLE : Hid ((Ss.take (i + 1)).flatten.length ≤ 100000) := Nat.le_trans (take_flat_le Ss (i + 1)) HF.out
        clear eu r1 r2 hlt
        generalize Ss.getD i [] = S at c1 hr2 HT
        have hSk : k + S.length ≤ 100000 := by
          have := HLE.out
          rw [HT.out, List.length_append, HK.out] at this
          exact this
        go_wp2_with (at_builtin; refine wpList_append_own _ rfl (.tmp 46) (.tmp 47) 31 rfl w.heap.size 57 i2 _ 2 16 Yba.underlying31 ji jz0 jz1 jz2 rfl (by decide) _ k _ rfl hown ⟨ss, 0, none⟩ S.length S.length (flatS S) rfl (flatS_length S) ?hn1 (flatS_one S) ?hn3 ?hn4 hbel.size ?_)
        case hn1 =>
          intro t u hu
          rw [Addr.add_mid]
          exact hr2.cell (by simpa using hu)
        case hn3 => unfold maxLen; omega
        case hn4 => omega
        intro v' wz hown' hgrow _
        have hown2 : wz.ownsRow w.heap.size 57 2 v' (k + S.length) (flatS (Ss.take (i + 1)).flatten) := by
          rw [HT.out, flatS_append]
          exact hown'
        have HK2 : Hid ((Ss.take (i + 1)).flatten.length = k + S.length) := by
          show (Ss.take (i + 1)).flatten.length = k + S.length
          rw [HT.out, List.length_append, HK.out]
        have hb2 : Below w.heap.size w wz := hbel.grown hgrow hbel.size (fun k hk => (owns_block hown hk).2)
        clear hown' hgrow hown hbel c0 c1 hr2
        go_wp2
        go_roundw
        case rel => exact ⟨i + 1, k + S.length, by go_num, by omega, hSk, hown2, HK2, hb2⟩
        case measure => simp [intOf]; omega
      · obtain rfl : i = N := by omega
        have hfull : Ss.take i = Ss := List.take_of_length_le (by rw [HE.out]; exact Nat.le_refl _)
        rw [hfull] at hown HK
        rcases owns_row57 hown with ⟨hvn, hS0⟩ | ⟨g2, cap2, more2, hv2, hb2, hr2, hl2⟩
        · subst hvn
          have HS0 := hide hS0
          clear hown hS0
          go_wp2_with (go_at_call 36; refine (unite_nil _).mono ?_; rintro e w5 ⟨rfl, rfl⟩)
          go_ret2
          exact ⟨none, 0, 0, [], rfl, Nat.zero_le _, ArgT.nil _, fun x => by rw [HS0.out], hbel⟩
        · subst hv2
          have HU2 := unite_any Ss.flatten g2 cap2 more2 wr hr2 hl2 HSM.out HF.out
          have hb2' := hide hb2
          have hX : Hid (∀ w5, wr.grownBy w5 (some g2) → Below w.heap.size w w5) := fun w5 h5 => below_own hbel h5 hb2'.out hbel.size
          rw [HK.out] at HU2 ⊢
          clear hown hr2 hl2 hb2
          go_wp2_with (go_at_call 36; refine HU2.mono ?_; rintro e w5 ⟨m, T, rfl, hp, ha, hm, hA, hg5⟩)
          go_ret2
          exact ⟨_, m, cap2, uniteS T, rfl, hm, hA, fun x => by rw [unite_has ha, hasB_perm hp], hX.out _ hg5⟩
end Go.Proofs.Ybulkbaje
