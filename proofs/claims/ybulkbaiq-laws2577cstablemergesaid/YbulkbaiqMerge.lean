/- mergeEdits (function 20): the merge of two rows of edits, in a row of the call's own. -/
import Derived.Test.YbulkbaiqEdits
import Derived.Deep.RegionHeld3
import Derived.BigQuiet
import Derived.Deep.QuietTactic
import Derived.Outline
namespace Go.Proofs.Ybulkbaiq
open Go.RowKit

theorem next_at (g o : Nat) (xs : List (Int × Int)) : ∃ o', (if xs = [] then some (⟨g, o, none⟩ : Addr) else some ⟨g, o + 33, none⟩) = some ⟨g, o', none⟩ ∧ (xs = [] ∨ o' = o + 33) := by
  by_cases h : xs = []
  · exact ⟨o, by rw [if_pos h], .inl h⟩
  · exact ⟨o + 33, by rw [if_neg h], .inr rfl⟩

theorem next_range {w : World} {g o o' : Nat} {x : Int × Int} {xs : List (Int × Int)} (h : w.rangeAt g o (cellsE x ++ flat xs)) (q : xs = [] ∨ o' = o + 33) : w.rangeAt g o' (flat xs) := by
  rcases q with rfl | rfl
  · intro j v hj
    simp [flat] at hj
  · exact rangeAt_right h

theorem cells_of {w : World} {g o : Nat} {xs : List Value} (h : w.rangeAt g o xs) : ∀ ad, some (⟨g, o, none⟩ : Addr) = some ad → ∀ j u, xs[j]? = some u → w.cell? (ad.add j) = some u := by
  intro ad had j u hj
  obtain rfl := Option.some.inj had
  rw [Addr.add_mid]
  exact h j u hj
theorem below_own {B g : Nat} {w wr w2 : World} (h : Below B w wr) (hg : wr.grownBy w2 (some g)) (hB : B ≤ g) (hs : B ≤ wr.heap.size) : Below B w w2 :=
  h.grown hg hs (fun k hk => by injection hk with hk; omega)
theorem merge_len {As Bs xs ys M : List (Int × Int)} {na nb : Nat} (HM : Hid (M ++ mrg xs ys = mrg As Bs)) (HA : Hid (As.length = na)) (HB : Hid (Bs.length = nb)) : M.length + xs.length + ys.length = na + nb := by
  have h := congrArg List.length HM.out
  rw [List.length_append, mrg_length, mrg_length, HA.out, HB.out] at h
  omega
theorem merge_end {As Bs xs ys M : List (Int × Int)} {B n : Nat} {w : World} {v : Value} (HM : Hid (M ++ mrg xs ys = mrg As Bs)) (hown : w.ownsRow B 68 33 v n (flat M ++ flat xs ++ flat ys)) (h : mrg xs ys = xs ++ ys) :
    w.ownsRow B 68 33 v n (flat (mrg As Bs)) := by
  rw [← HM.out, h, flat_append, flat_append, ← List.append_assoc]
  exact hown
theorem ret_slice {a : Option Addr} {n m c : Nat} (h : n = m) : Ending.returned (.slice a n c) = .returned (.slice a m c) := by rw [h]
theorem own_len {w : World} {B n m c : Nat} {a : Option Addr} {xs : List Value} (h : n = m) (hown : w.ownsRow B 68 33 (.slice a n c) n xs) : w.ownsRow B 68 33 (.slice a m c) m xs := h ▸ hown
theorem below_step {B g nq : Nat} {w wr w2 : World} {o : Obj} (h : Below B w wr) (hg : ((wr.drewN nq).drew.alloc o).grownBy w2 (some g)) (hB : B ≤ g) (hs : B ≤ wr.heap.size) : Below B w w2 := by
  have h1 : Below B w (wr.drewN nq).drew := ⟨h.os, h.tape, h.output, h.size, h.block⟩
  refine (h1.alloc (show B ≤ (wr.drewN nq).drew.heap.size from hs) o).grown hg ?_ ?_
  · have := (h1.alloc (show B ≤ (wr.drewN nq).drew.heap.size from hs) o).size
    have e : ((wr.drewN nq).drew.alloc o).heap.size = wr.heap.size + 1 := by simp
    omega
  · intro k hk
    injection hk with hk
    omega

set_option linter.unusedSimpArgs false
def lenOf : Value → Nat
  | .slice _ n _ => n
  | _ => 0

/-- What the loop of mergeEdits holds at each round's head: what is left of the two rows, what is laid out. -/
def MergeRel (As Bs : List (Int × Int)) (ga gb B N : Nat) (w : World) (v0 v1 v5 : Value) (wr : World) : Prop :=
  ∃ (xs ys M : List (Int × Int)) (oa ob : Nat), v0 = .slice (some ⟨ga, oa, none⟩) xs.length xs.length ∧ v1 = .slice (some ⟨gb, ob, none⟩) ys.length ys.length ∧
    v5 = .slice (some ⟨B, 0, none⟩) M.length N ∧ w.rangeAt ga oa (flat xs) ∧ w.rangeAt gb ob (flat ys) ∧
    wr.ownsRow B 68 33 (.slice (some ⟨B, 0, none⟩) M.length N) M.length (flat M) ∧ Below B w wr ∧ M ++ mrg xs ys = mrg As Bs ∧ M.length + xs.length + ys.length ≤ N ∧ N ≤ 4096

set_option maxRecDepth 100000 in
set_option maxHeartbeats 1000000 in
theorem merge_any (As Bs : List (Int × Int)) (ga gb na nb : Nat) (w : World) (hna : As.length = na) (hnb : Bs.length = nb) (hga : ga < w.heap.size) (hgb : gb < w.heap.size) (ha : w.rangeAt ga 0 (flat As)) (hb : w.rangeAt gb 0 (flat Bs))
    (hla : na ≤ 1024) (hlb : nb ≤ 1024) :
    Calls Yba.prog 20 #[.slice (some ⟨ga, 0, none⟩) na na, .slice (some ⟨gb, 0, none⟩) nb nb] w fun e w' =>
      e = .returned (.slice (some ⟨w.heap.size, 0, none⟩) (na + nb) (na + nb)) ∧ w'.ownsRow w.heap.size 68 33 (.slice (some ⟨w.heap.size, 0, none⟩) (na + nb) (na + nb)) (na + nb) (flat (mrg As Bs)) ∧
      Below w.heap.size w w' := by
  obtain ⟨i0, hi, hz0, hz1, hz2⟩ := info_parts info68
  have HA : Hid (As.length = na) := hna
  have HB : Hid (Bs.length = nb) := hnb
  have hby : i0.bytes * (na + nb) ≤ 281474976710656 := by rw [hz2]; omega
  clear hna hnb
  go_enter Yba.func20, Yba.ntmps20
  go_wp2_with (refine wpList_make_own _ rfl _ _ 60 rfl w.heap.size 68 i0 _ 33 Yba.underlying60 hi hz0 hz1 .i64 .i64 _ (na + nb) rfl rfl (by omega) hby (by unfold maxLen; omega) (Nat.le_refl _) ?_; intro w1 hown1 hgrow1)
  have hb1 : Below w.heap.size w w1 := (Below.refl _ _).grown hgrow1 (Nat.le_refl _) (fun k hk => by cases hk)
  go_loopw [0, 1, 5] (MergeRel As Bs ga gb w.heap.size (na + nb) w) (fun v0 v1 _ _ => lenOf v0 + lenOf v1)
  case atStart =>
    exact ⟨As, Bs, [], 0, 0, by rw [HA.out], by rw [HB.out], rfl, ha, hb, hown1, hb1, rfl, by simp [HA.out, HB.out], by omega⟩
  case round =>
    obtain ⟨xs, ys, M, oa, ob, rfl, rfl, rfl, hxs, hys, hown, hbel, hM, hN, hN2⟩ := hrel
    have HM : Hid (M ++ mrg xs ys = mrg As Bs) := hM
    clear hM hown1 hgrow1 hb1 ha hb
    cases xs with
    | nil =>
      have hl1 : ([] : List (Int × Int)).length ≤ 4096 := by simp
      have hl2 : ys.length ≤ 4096 := by simp at hN ⊢; omega
      go_wp2_with (first | (at_builtin; refine wpList_append_fits_any _ rfl (.tmp 45) (.tmp 46) 60 rfl w.heap.size 68 i0 33 Yba.underlying60 hi hz1 w.heap.size M.length (na + nb) (flat M) rfl hown (some ⟨ga, oa, none⟩) ([] : List (Int × Int)).length ([] : List (Int × Int)).length (flat ([] : List (Int × Int))) rfl (flat_length _) (by simp) (cells_of (rangeAt_below hxs hbel hga)) (flat_oneCell _) (by simp at hN ⊢; omega) ?_; intro w3 hown3 hgrow3) | (at_builtin; refine wpList_append_fits_any _ rfl (.tmp 47) (.tmp 48) 60 rfl w.heap.size 68 i0 33 Yba.underlying60 hi hz1 w.heap.size (M.length + ([] : List (Int × Int)).length) (na + nb) (flat M ++ flat ([] : List (Int × Int))) rfl hown3 (some ⟨gb, ob, none⟩) ys.length ys.length (flat ys) rfl (flat_length _) (by simp) (cells_of (rangeAt_below hys (below_own hbel hgrow3 (Nat.le_refl _) hbel.size) hgb)) (flat_oneCell _) (by simp at hN ⊢; omega) ?_; intro w4 hown4 hgrow4))
      have hown5 := merge_end HM hown4 (mrg_nil_left _)
      have hbel5 := below_own (below_own hbel hgrow3 (Nat.le_refl _) hbel.size) hgrow4 (Nat.le_refl _) (Nat.le_trans hbel.size hgrow3.size)
      have hlen := merge_len HM HA HB
      go_ret
      exact ⟨ret_slice (by simp at hlen ⊢; omega), own_len hlen hown5, hbel5⟩
    | cons x xs =>
      cases ys with
      | nil =>
        have hl1 : (x :: xs).length ≤ 4096 := by simp at hN ⊢; omega
        have hl2 : ([] : List (Int × Int)).length ≤ 4096 := by simp
        go_wp2_with (first | (at_builtin; refine wpList_append_fits_any _ rfl (.tmp 45) (.tmp 46) 60 rfl w.heap.size 68 i0 33 Yba.underlying60 hi hz1 w.heap.size M.length (na + nb) (flat M) rfl hown (some ⟨ga, oa, none⟩) (x :: xs).length (x :: xs).length (flat (x :: xs)) rfl (flat_length _) (by simp) (cells_of (rangeAt_below hxs hbel hga)) (flat_oneCell _) (by simp at hN ⊢; omega) ?_; intro w3 hown3 hgrow3) | (at_builtin; refine wpList_append_fits_any _ rfl (.tmp 47) (.tmp 48) 60 rfl w.heap.size 68 i0 33 Yba.underlying60 hi hz1 w.heap.size (M.length + (x :: xs).length) (na + nb) (flat M ++ flat (x :: xs)) rfl hown3 (some ⟨gb, ob, none⟩) ([] : List (Int × Int)).length ([] : List (Int × Int)).length (flat ([] : List (Int × Int))) rfl (flat_length _) (by simp) (cells_of (rangeAt_below hys (below_own hbel hgrow3 (Nat.le_refl _) hbel.size) hgb)) (flat_oneCell _) (by simp at hN ⊢; omega) ?_; intro w4 hown4 hgrow4))
        have hown5 := merge_end HM hown4 ((mrg_nil_right _).trans (List.append_nil _).symm)
        have hbel5 := below_own (below_own hbel hgrow3 (Nat.le_refl _) hbel.size) hgrow4 (Nat.le_refl _) (Nat.le_trans hbel.size hgrow3.size)
        have hlen := merge_len HM HA HB
        go_ret
        exact ⟨ret_slice (by simp at hlen ⊢; omega), own_len hlen hown5, hbel5⟩
      | cons y ys =>
        rw [flat_cons] at hxs hys
        have rx := rangeAt_below (rangeAt_left hxs) hbel hga
        have ry := rangeAt_below (rangeAt_left hys) hbel hgb
        have hfa := range_first rx
        have hfb := range_first ry
        have hl1 : xs.length ≤ 4096 := by simp at hN; omega
        have hl2 : ys.length ≤ 4096 := by simp at hN; omega
        by_cases hle : x.1 ≤ y.1
        · go_wp2
          go_quiet (fail)
          go_wp2
          obtain ⟨oa', q1, q2⟩ := next_at ga oa xs
          have h1 : (1 : Int) ≤ (xs.length : Int) + 1 := by omega
          refine wp_region_held_drew (S := fun w' => w'.rangeAt ga oa (cellsE x)) (by kernel_rfl) (by exact rx) (fun hHeld => ?_)
          refine take_to 0 29 (.slice (some ⟨w.heap.size, 0, none⟩) M.length (na + nb)) rfl rfl (by kernel_rfl) (by kernel_rfl) (by kernel_rfl) (fun _ _ _ h => h) (Or.inl ⟨by rfl, by intro w' hSw; go_simp⟩) (by assumption) ?_
          simp only [Act.put, List.setIfInBounds_toArray, List.set_cons_zero, List.set_cons_succ]
          refine take_to 1 30 (.slice (some ⟨ga, oa, none⟩) (x :: xs).length (x :: xs).length) rfl rfl (by kernel_rfl) (by kernel_rfl) (by kernel_rfl) (fun _ _ _ h => h) (Or.inl ⟨by rfl, by intro w' hSw; go_simp⟩) (by assumption) ?_
          simp only [Act.put, List.setIfInBounds_toArray, List.set_cons_zero, List.set_cons_succ]
          refine take_to 2 31 (.pointer (some ⟨ga, oa, none⟩)) rfl rfl (by kernel_rfl) (by kernel_rfl) (by kernel_rfl) (fun _ _ _ h => h) (Or.inl ⟨by rfl, by intro w' hSw; go_simp⟩) (by assumption) ?_
          simp only [Act.put, List.setIfInBounds_toArray, List.set_cons_zero, List.set_cons_succ]
          refine take_to 3 32 (.agg (cellsE x).toArray) rfl rfl (by kernel_rfl) (by kernel_rfl) (by kernel_rfl) (fun _ _ _ h => h) (yieldsIf_load_mid (by rfl) _ _ rfl _ _ rfl _ _ (fun _ h => h) Yba.underlying68 rfl size68) (by assumption) ?_
          simp only [Act.put, List.setIfInBounds_toArray, List.set_cons_zero, List.set_cons_succ]
          refine take_to 6 35 (.slice (some ⟨ga, oa, none⟩) (x :: xs).length (x :: xs).length) rfl rfl (by kernel_rfl) (by kernel_rfl) (by kernel_rfl) (fun _ _ _ h => h) (Or.inl ⟨by rfl, by intro w' hSw; go_simp⟩) (by assumption) ?_
          simp only [Act.put, List.setIfInBounds_toArray, List.set_cons_zero, List.set_cons_succ]
          refine take_to 7 36 (.slice (some ⟨ga, oa', none⟩) xs.length xs.length) rfl rfl (by kernel_rfl) (by kernel_rfl) (by kernel_rfl) (fun _ _ _ h => h) (Or.inl ⟨by rfl, by intro w' hSw; go_simp⟩) (by assumption) ?_
          simp only [Act.put, List.setIfInBounds_toArray, List.set_cons_zero, List.set_cons_succ]
          refine wpAnyH_ready (rs := [4]) (by kernel_rfl) (by simp) (AllReadyH.cons rfl (fun K hK => ?_) AllReadyH.nil)
          rw [if_pos (by rfl)]
          refine wp_single_to (.tmp 32) 33 (by rfl) (by rfl) (cellsE x) (cellsE_length x) (by rfl) ?_
          simp only [Act.put, List.setIfInBounds_toArray, List.set_cons_zero, List.set_cons_succ]
          refine hK.out _ _ (World.rangeAt_alloc (by exact rx) _) (fun hHeld1 => ?_)
          clear hK K hHeld
          refine wpAnyH_ready (rs := [5]) (by kernel_rfl) (by simp) (AllReadyH.cons rfl (fun K hK => ?_) AllReadyH.nil)
          rw [if_pos (by rfl)]
          refine wp_append_to (.tmp 29) (.tmp 33) 34 (by rfl) (by rfl) w.heap.size w.heap.size M.length (na + nb) (flat M) (by rfl) (World.ownsRow.alloc (by exact hown) _) ⟨_, 0, none⟩ 1 1 (cellsE x) (by rfl) (by rfl) (single_cells _ _) (cellsE_one _) (by simp at hN; omega) ?_
          intro w2 hown2 hgrow2
          simp only [Act.put, List.setIfInBounds_toArray, List.set_cons_zero, List.set_cons_succ]
          have hbel2 : Below w.heap.size w w2 := below_step hbel hgrow2 (Nat.le_refl _) hbel.size
          refine hK.out _ _ (rangeAt_below (rangeAt_left hxs) hbel2 hga) (fun hHeld2 => ?_)
          clear hK K hHeld1 hgrow2
          refine take_to 8 5 (.slice (some ⟨w.heap.size, 0, none⟩) (M.length + 1) (na + nb)) rfl rfl (by kernel_rfl) (by kernel_rfl) (by kernel_rfl) (fun _ _ _ h => h) (Or.inl ⟨by rfl, by intro w' hSw; go_simp⟩) (by assumption) ?_
          simp only [Act.put, List.setIfInBounds_toArray, List.set_cons_zero, List.set_cons_succ]
          refine take_to 9 0 (.slice (some ⟨ga, oa', none⟩) xs.length xs.length) rfl rfl (by kernel_rfl) (by kernel_rfl) (by kernel_rfl) (fun _ _ _ h => h) (Or.inl ⟨by rfl, by intro w' hSw; go_simp⟩) (by assumption) ?_
          simp only [Act.put, List.setIfInBounds_toArray, List.set_cons_zero, List.set_cons_succ]
          refine wpAnyH_done (by kernel_rfl) ?_ _
          go_wp2
          go_roundw
          case rel => exact ⟨xs, y :: ys, M ++ [x], oa', ob, rfl, rfl, by simp, next_range hxs q2, by rw [flat_cons]; exact hys, by rw [flat_append, flat_one, List.length_append]; exact hown2, hbel2, by rw [← HM.out, mrg_take _ _ hle]; simp, by simp at hN ⊢; omega, hN2⟩
          case measure => simp [lenOf]
        · go_wp2
          go_quiet (fail)
          go_wp2
          obtain ⟨ob', q1, q2⟩ := next_at gb ob ys
          have h1 : (1 : Int) ≤ (ys.length : Int) + 1 := by omega
          refine wp_region_held_drew (S := fun w' => w'.rangeAt gb ob (cellsE y)) (by kernel_rfl) (by exact ry) (fun hHeld => ?_)
          refine take_to 0 37 (.slice (some ⟨w.heap.size, 0, none⟩) M.length (na + nb)) rfl rfl (by kernel_rfl) (by kernel_rfl) (by kernel_rfl) (fun _ _ _ h => h) (Or.inl ⟨by rfl, by intro w' hSw; go_simp⟩) (by assumption) ?_
          simp only [Act.put, List.setIfInBounds_toArray, List.set_cons_zero, List.set_cons_succ]
          refine take_to 1 38 (.slice (some ⟨gb, ob, none⟩) (y :: ys).length (y :: ys).length) rfl rfl (by kernel_rfl) (by kernel_rfl) (by kernel_rfl) (fun _ _ _ h => h) (Or.inl ⟨by rfl, by intro w' hSw; go_simp⟩) (by assumption) ?_
          simp only [Act.put, List.setIfInBounds_toArray, List.set_cons_zero, List.set_cons_succ]
          refine take_to 2 39 (.pointer (some ⟨gb, ob, none⟩)) rfl rfl (by kernel_rfl) (by kernel_rfl) (by kernel_rfl) (fun _ _ _ h => h) (Or.inl ⟨by rfl, by intro w' hSw; go_simp⟩) (by assumption) ?_
          simp only [Act.put, List.setIfInBounds_toArray, List.set_cons_zero, List.set_cons_succ]
          refine take_to 3 40 (.agg (cellsE y).toArray) rfl rfl (by kernel_rfl) (by kernel_rfl) (by kernel_rfl) (fun _ _ _ h => h) (yieldsIf_load_mid (by rfl) _ _ rfl _ _ rfl _ _ (fun _ h => h) Yba.underlying68 rfl size68) (by assumption) ?_
          simp only [Act.put, List.setIfInBounds_toArray, List.set_cons_zero, List.set_cons_succ]
          refine take_to 6 43 (.slice (some ⟨gb, ob, none⟩) (y :: ys).length (y :: ys).length) rfl rfl (by kernel_rfl) (by kernel_rfl) (by kernel_rfl) (fun _ _ _ h => h) (Or.inl ⟨by rfl, by intro w' hSw; go_simp⟩) (by assumption) ?_
          simp only [Act.put, List.setIfInBounds_toArray, List.set_cons_zero, List.set_cons_succ]
          refine take_to 7 44 (.slice (some ⟨gb, ob', none⟩) ys.length ys.length) rfl rfl (by kernel_rfl) (by kernel_rfl) (by kernel_rfl) (fun _ _ _ h => h) (Or.inl ⟨by rfl, by intro w' hSw; go_simp⟩) (by assumption) ?_
          simp only [Act.put, List.setIfInBounds_toArray, List.set_cons_zero, List.set_cons_succ]
          refine wpAnyH_ready (rs := [4]) (by kernel_rfl) (by simp) (AllReadyH.cons rfl (fun K hK => ?_) AllReadyH.nil)
          rw [if_pos (by rfl)]
          refine wp_single_to (.tmp 40) 41 (by rfl) (by rfl) (cellsE y) (cellsE_length y) (by rfl) ?_
          simp only [Act.put, List.setIfInBounds_toArray, List.set_cons_zero, List.set_cons_succ]
          refine hK.out _ _ (World.rangeAt_alloc (by exact ry) _) (fun hHeld1 => ?_)
          clear hK K hHeld
          refine wpAnyH_ready (rs := [5]) (by kernel_rfl) (by simp) (AllReadyH.cons rfl (fun K hK => ?_) AllReadyH.nil)
          rw [if_pos (by rfl)]
          refine wp_append_to (.tmp 37) (.tmp 41) 42 (by rfl) (by rfl) w.heap.size w.heap.size M.length (na + nb) (flat M) (by rfl) (World.ownsRow.alloc (by exact hown) _) ⟨_, 0, none⟩ 1 1 (cellsE y) (by rfl) (by rfl) (single_cells _ _) (cellsE_one _) (by simp at hN; omega) ?_
          intro w2 hown2 hgrow2
          simp only [Act.put, List.setIfInBounds_toArray, List.set_cons_zero, List.set_cons_succ]
          have hbel2 : Below w.heap.size w w2 := below_step hbel hgrow2 (Nat.le_refl _) hbel.size
          refine hK.out _ _ (rangeAt_below (rangeAt_left hys) hbel2 hgb) (fun hHeld2 => ?_)
          clear hK K hHeld1 hgrow2
          refine take_to 8 5 (.slice (some ⟨w.heap.size, 0, none⟩) (M.length + 1) (na + nb)) rfl rfl (by kernel_rfl) (by kernel_rfl) (by kernel_rfl) (fun _ _ _ h => h) (Or.inl ⟨by rfl, by intro w' hSw; go_simp⟩) (by assumption) ?_
          simp only [Act.put, List.setIfInBounds_toArray, List.set_cons_zero, List.set_cons_succ]
          refine take_to 9 1 (.slice (some ⟨gb, ob', none⟩) ys.length ys.length) rfl rfl (by kernel_rfl) (by kernel_rfl) (by kernel_rfl) (fun _ _ _ h => h) (Or.inl ⟨by rfl, by intro w' hSw; go_simp⟩) (by assumption) ?_
          simp only [Act.put, List.setIfInBounds_toArray, List.set_cons_zero, List.set_cons_succ]
          refine wpAnyH_done (by kernel_rfl) ?_ _
          go_wp2
          go_roundw
          case rel => exact ⟨x :: xs, ys, M ++ [y], oa, ob', rfl, rfl, by simp, by rw [flat_cons]; exact hxs, next_range hys q2, by rw [flat_append, flat_one, List.length_append]; exact hown2, hbel2, by rw [← HM.out, mrg_drop _ _ (by omega)]; simp, by simp at hN ⊢; omega, hN2⟩
          case measure => simp [lenOf]
end Go.Proofs.Ybulkbaiq
