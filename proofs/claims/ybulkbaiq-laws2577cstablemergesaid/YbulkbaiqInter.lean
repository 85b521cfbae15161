/- LawS2577CInterleave (function 7): the walk. -/
import Derived.Test.YbulkbaiqMerge
import Derived.OpenShut
namespace Go.Proofs.Ybulkbaiq
open Go.RowKit
set_option linter.unusedSimpArgs false
set_option linter.unusedVariables false

/-- A slice of int8 that came in: its numbers; where it has an element, where they lie. -/
def Arg (k : IntKind) (w : World) (a : Option Addr) (len : Nat) (fs : List Int) : Prop :=
  fs.length = len ∧ (0 < len → ∃ b off, a = some ⟨b, off, none⟩ ∧ b < w.heap.size ∧ ∀ t, t < len → w.cell? ⟨b, off + t, none⟩ = some (.int k (fs.getD t 0))) ∧ ∀ t, (Lit.int k (fs.getD t 0)).wf = true

theorem own_lt {w : World} {base g n cap : Nat} {xs : List Value} (h : w.ownsRow base 68 33 (.slice (some ⟨g, 0, none⟩) n cap) n xs) : g < w.heap.size := by
  rcases h.2 with ⟨h, _⟩ | ⟨g', cap', cur, h, _, hg, _, _, _, _⟩
  · simp at h
  · simp only [Value.slice.injEq, Option.some.injEq, Addr.mk.injEq, and_true, true_and] at h
    obtain ⟨rfl, rfl⟩ := h
    rcases Nat.lt_or_ge g w.heap.size with hlt | hge
    · exact hlt
    · rw [Array.getElem?_eq_none hge] at hg; cases hg

theorem take_tagA (fa : List Int) (k : Nat) (h : k < fa.length) : tagA 0 (fa.take (k + 1)) = tagA 0 (fa.take k) ++ [(fa.getD k 0, (k : Int))] := by
  rw [List.take_succ_eq_append_getElem h, tagA_snoc]
  simp [h, Nat.min_eq_left (Nat.le_of_lt h)]
theorem take_tagB (fa : List Int) (k : Nat) (h : k < fa.length) : tagB 0 (fa.take (k + 1)) = tagB 0 (fa.take k) ++ [(fa.getD k 0, -1 - (k : Int))] := by
  rw [List.take_succ_eq_append_getElem h, tagB_snoc]
  simp [h, Nat.min_eq_left (Nat.le_of_lt h)]
theorem below_put {B g : Nat} {w wr w2 : World} {o : Obj} (h : Below B w wr) (hg : (wr.alloc o).grownBy w2 (some g)) (hB : B ≤ g) (hs : B ≤ wr.heap.size) : Below B w w2 := by
  refine (h.alloc hs o).grown hg ?_ ?_
  · simp; omega
  · intro k hk
    injection hk with hk
    omega
theorem wrap_small {n : Int} (h1 : -4096 ≤ n) (h2 : n ≤ 4096) : IntKind.i64.wrap n = n := by
  simp [IntKind.wrap, IntKind.signed, IntKind.bits]
  omega
theorem below_quiet {B n : Nat} {a w : World} (h : Below B a w) : Below B a (w.drewN n) := ⟨h.os, h.tape, h.output, h.size, h.block⟩
theorem hide {p : Prop} (h : p) : Hid p := h

set_option maxRecDepth 100000 in
set_option maxHeartbeats 2000000 in
theorem inter_main (fa fb : List Int) (a0 : Option Addr) (len0 cap0 : Nat) (a1 : Option Addr) (len1 cap1 : Nat) (w : World) (h0 : Arg .i8 w a0 len0 fa) (h1 : Arg .i8 w a1 len1 fb) (hl0 : len0 ≤ 1024) (hl1 : len1 ≤ 1024) :
    Calls Yba.prog 7 #[.slice a0 len0 cap0, .slice a1 len1 cap1] w fun e w' => e = .returned (.bool true) ∧ Below w.heap.size w w' := by
  obtain ⟨i0, hi, hz0, hz1, hz2⟩ := info_parts info68
  have hby0 : i0.bytes * len0 ≤ 281474976710656 := by rw [hz2]; omega
  have hby1 : i0.bytes * len1 ≤ 281474976710656 := by rw [hz2]; omega
  obtain ⟨hfa, hca, hwa⟩ := h0
  obtain ⟨hfb, hcb, hwb⟩ := h1
  have HFA : Hid (fa.length = len0) := hfa
  have HFB : Hid (fb.length = len1) := hfb
  have HCA := hide hca
  have HCB := hide hcb
  have HWA := hide hwa
  have HWB := hide hwb
  clear hfa hfb hca hcb hwa hwb
  go_enter Yba.func7, Yba.ntmps7
  go_wp2_with (refine wpList_make_own _ rfl _ _ 60 rfl w.heap.size 68 i0 _ 33 Yba.underlying60 hi hz0 hz1 .i64 .i64 _ len0 rfl rfl rfl hby0 (by unfold maxLen; omega) (Nat.le_refl _) ?_; intro w1 hown1 hgrow1)
  have hb1 : Below w.heap.size w w1 := (Below.refl _ _).grown hgrow1 (Nat.le_refl _) (fun k hk => by cases hk)
  go_loopw [5, 29] (fun v i wr => ∃ k : Nat, k ≤ len0 ∧ i = .int .i64 k ∧ v = .slice (some ⟨w.heap.size, 0, none⟩) k len0 ∧
      wr.ownsRow w.heap.size 68 33 (.slice (some ⟨w.heap.size, 0, none⟩) k len0) k (flat (tagA 0 (fa.take k))) ∧ Below w.heap.size w wr) (fun _ i _ => len0 - (intOf i).toNat)
  case atStart => exact ⟨0, Nat.zero_le _, rfl, rfl, hown1, hb1⟩
  case round =>
    obtain ⟨k, hk, rfl, rfl, hown, hbel⟩ := hrel
    clear hown1 hgrow1 hb1
    by_cases hlt : k < len0
    · obtain ⟨b, off, rfl, hbw, hcell⟩ := HCA.out (by omega)
      have hf := bounds_i8 (HWA.out k)
      have hc := (hbel.cell (p := ⟨b, off + k, none⟩) hbw).trans (hcell k hlt)
      have HT : Hid (tagA 0 (fa.take (k + 1)) = tagA 0 (fa.take k) ++ [(fa.getD k 0, (k : Int))]) := take_tagA fa k (by rw [HFA.out]; exact hlt)
      clear hcell
      generalize fa.getD k 0 = f at hf hc HT
      go_wp2_with (first | (refine wpList_edit rfl (.tmp 36) (.tmp 37) rfl f k rfl rfl ?_) | (refine wpList_single rfl (.tmp 38) rfl (cellsE (f, (k : Int))) rfl rfl ?_) | (at_builtin; refine wpList_append_fits _ rfl (.tmp 34) (.tmp 39) 60 rfl w.heap.size 68 i0 33 Yba.underlying60 hi hz1 w.heap.size k len0 _ rfl (hown.alloc _) ⟨_, 0, none⟩ 1 1 (cellsE (f, (k : Int))) rfl rfl (single_cells _ _) (cellsE_one _) (by omega) ?_; intro w2 hown2 hgrow2))
      have hbel2 := below_put hbel hgrow2 (Nat.le_refl _) hbel.size
      clear hgrow2 hown hbel hc
      go_roundw
      case rel => exact ⟨k + 1, by omega, by go_num, rfl, by rw [HT.out, flat_append, flat_one]; exact hown2, hbel2⟩
      case measure => simp [intOf]; omega
    · obtain rfl : k = len0 := by omega
      rename World => wA
      have hfull : fa.take k = fa := List.take_of_length_le (by rw [HFA.out]; exact Nat.le_refl _)
      rw [hfull] at hown
      have rA := owns_range hown
      have lA := own_lt hown
      clear hown hfull
      go_wp2_with (refine wpList_make_own _ rfl _ _ 60 rfl wA.heap.size 68 i0 _ 33 Yba.underlying60 hi hz0 hz1 .i64 .i64 _ len1 rfl rfl rfl hby1 (by unfold maxLen; omega) (Nat.le_refl _) ?_; intro w1' hown1 hgrow1)
      have hb1 : Below wA.heap.size wA w1' := (Below.refl _ _).grown hgrow1 (Nat.le_refl _) (fun k hk => by cases hk)
      clear hgrow1
      go_loopw [8, 47] (fun v i wx => ∃ t : Nat, t ≤ len1 ∧ i = .int .i64 t ∧ v = .slice (some ⟨wA.heap.size, 0, none⟩) t len1 ∧
          wx.ownsRow wA.heap.size 68 33 (.slice (some ⟨wA.heap.size, 0, none⟩) t len1) t (flat (tagB 0 (fb.take t))) ∧ Below wA.heap.size wA wx) (fun _ i _ => len1 - (intOf i).toNat)
      case atStart => exact ⟨0, Nat.zero_le _, rfl, rfl, hown1, hb1⟩
      case round =>
        obtain ⟨t, ht, rfl, rfl, hown, hbel2⟩ := hrel
        clear hown1 hb1
        by_cases hlt1 : t < len1
        · obtain ⟨b, off, rfl, hbw, hcell⟩ := HCB.out (by omega)
          have hf := bounds_i8 (HWB.out t)
          have hc := (hbel2.cell (p := ⟨b, off + t, none⟩) (Nat.lt_of_lt_of_le hbw hbel.size)).trans ((hbel.cell (p := ⟨b, off + t, none⟩) hbw).trans (hcell t hlt1))
          have HT : Hid (tagB 0 (fb.take (t + 1)) = tagB 0 (fb.take t) ++ [(fb.getD t 0, -1 - (t : Int))]) := take_tagB fb t (by rw [HFB.out]; exact hlt1)
          clear hcell
          generalize fb.getD t 0 = f at hf hc HT
          go_wp2_with (first | (refine wpList_edit rfl (.tmp 54) (.tmp 56) rfl f (-1 - (t : Int)) rfl rfl ?_) | (refine wpList_single rfl (.tmp 57) rfl (cellsE (f, -1 - (t : Int))) rfl rfl ?_) | (at_builtin; refine wpList_append_fits _ rfl (.tmp 52) (.tmp 58) 60 rfl wA.heap.size 68 i0 33 Yba.underlying60 hi hz1 wA.heap.size t len1 _ rfl (hown.alloc _) ⟨_, 0, none⟩ 1 1 (cellsE (f, -1 - (t : Int))) rfl rfl (single_cells _ _) (cellsE_one _) (by omega) ?_; intro w2 hown2 hgrow2))
          have hbel3 := below_put hbel2 hgrow2 (Nat.le_refl _) hbel2.size
          clear hgrow2 hown hbel2 hc
          go_roundw
          case rel => exact ⟨t + 1, by omega, by go_num, rfl, by rw [HT.out, flat_append, flat_one]; exact hown2, hbel3⟩
          case measure => simp [intOf]; omega
        · obtain rfl : t = len1 := by omega
          have hfull : fb.take t = fb := List.take_of_length_le (by rw [HFB.out]; exact Nat.le_refl _)
          rw [hfull] at hown
          have rB := owns_range hown
          have lB := own_lt hown
          have rA2 := rangeAt_below rA hbel2 lA
          have lA2 : w.heap.size < wr.heap.size := Nat.lt_of_lt_of_le lA hbel2.size
          clear hown hfull
          rename World => wB
          go_wp2_with fail
          refine (merge_any (tagA 0 fa) (tagB 0 fb) w.heap.size wA.heap.size k t _ (by rw [tagA_length]; exact HFA.out) (by rw [tagB_length]; exact HFB.out) lA2 lB rA2 rB hl0 hl1).mono ?_
          rintro e w3 ⟨rfl, hown3, hbel3⟩
          have rG := owns_range hown3
          have lG := own_lt hown3
          have hbw3 : Below w.heap.size w w3 := (hbel.trans (hbel2.mono hbel.size)).trans (hbel3.mono (Nat.le_trans hbel.size hbel2.size))
          clear hown3 rA rB rA2
          go_wp2_with fail
          go_loopw [12, 13, 74] (fun va vt i wx => ∃ p ia it : Nat, va = .int .i64 ia ∧ vt = .int .i64 it ∧ i = .int .i64 p ∧ Hid (p = ia + it) ∧ Hid (Scan fa fb ia it) ∧ ia ≤ k ∧ it ≤ t ∧ Below w3.heap.size w3 wx) (fun _ _ i _ => k + t - (intOf i).toNat)
          case atStart => exact ⟨0, 0, 0, rfl, rfl, rfl, rfl, scan_zero _ _, Nat.zero_le _, Nat.zero_le _, Below.refl _ _⟩
          case round =>
            obtain ⟨p, ia, it, rfl, rfl, rfl, HP, HS, hia, hit, hbx⟩ := hrel
            by_cases hlt3 : p < k + t
            · have hq := scan_step HS.out (by rw [HFA.out, HFB.out, ← HP.out]; exact hlt3)
              rw [← HP.out] at hq
              obtain ⟨e, he, hcase⟩ := hq
              have rE : wr.rangeAt wB.heap.size (p * 33) (cellsE e) := by
                have := rangeAt_below (range_elem rG p (by rw [scan_total, HFA.out, HFB.out]; exact hlt3)) hbx lG
                rw [he, Nat.zero_add] at this
                exact this
              clear he
              rcases hcase with ⟨hs, hia2, rfl, hscan⟩ | ⟨hs, hit2, rfl, hscan⟩
              · have HS2 := hide hscan
                have hlx : ia < k := by have := HFA.out; omega
                obtain ⟨b, off, rfl, hbw, hcell⟩ := HCA.out (by omega)
                have hf := bounds_i8 (HWA.out ia)
                have hc := (hbx.cell (p := ⟨b, off + ia, none⟩) (Nat.lt_of_lt_of_le hbw hbw3.size)).trans ((hbw3.cell (p := ⟨b, off + ia, none⟩) hbw).trans (hcell ia hlx))
                have hbz : b < wr.heap.size := Nat.lt_of_lt_of_le hbw (Nat.le_trans hbw3.size hbx.size)
                clear hscan hcell
                generalize fa.getD ia 0 = f at rE hc hf hs
                go_wp2_with (first | (refine wpList_load_mid rfl 68 (.tmp 76) rfl _ _ rfl (cellsE (f, (ia : Int))) _ rE Yba.underlying68 rfl size68 ?_) | (refine wpList_store_own rfl (.tmp 15) (.tmp 77) rfl wr.heap.size (cellsE (f, (ia : Int))) (cellsE_length _) (cellsE_one _) rfl rfl _ (heap_alloc_new _ _) rfl ?_; intro w5 hb5 hg5; have rE5 := block_cell hb5; have c0 := range_first rE5; have c1 := range_last rE5; have hbel5 := below_put (Below.refl wr.heap.size wr) hg5 (Nat.le_refl _) (Nat.le_refl _); have hc5 := (hbel5.cell (p := ⟨b, off + ia, none⟩) hbz).trans hc))
                have hbel6 : Below w3.heap.size w3 _ := hbx.trans (hbel5.mono hbx.size)
                clear hg5 hb5 rE5 rE hc hbel5
                have e1 : decide (((k : Nat) : Int) ≤ ((ia : Nat) : Int)) = false := by simp; omega
                have ew : IntKind.i64.wrap f = f := wrap_small (by omega) (by omega)
                go_quiet (fail)
                go_wp2
                go_roundw
                case rel => exact ⟨p + 1, ia + 1, it, by go_num, rfl, by go_num, by have := HP.out; show p + 1 = ia + 1 + it; omega, HS2, by omega, hit, below_quiet hbel6⟩
                case measure => simp [intOf]; omega
              · have HS2 := hide hscan
                have hlx : it < t := by have := HFB.out; omega
                obtain ⟨b, off, rfl, hbw, hcell⟩ := HCB.out (by omega)
                have hf := bounds_i8 (HWB.out it)
                have hc := (hbx.cell (p := ⟨b, off + it, none⟩) (Nat.lt_of_lt_of_le hbw hbw3.size)).trans ((hbw3.cell (p := ⟨b, off + it, none⟩) hbw).trans (hcell it hlx))
                have hbz : b < wr.heap.size := Nat.lt_of_lt_of_le hbw (Nat.le_trans hbw3.size hbx.size)
                clear hscan hcell
                generalize fb.getD it 0 = f at rE hc hf hs
                go_wp2_with (first | (refine wpList_load_mid rfl 68 (.tmp 76) rfl _ _ rfl (cellsE (f, -1 - (it : Int))) _ rE Yba.underlying68 rfl size68 ?_) | (refine wpList_store_own rfl (.tmp 15) (.tmp 77) rfl wr.heap.size (cellsE (f, -1 - (it : Int))) (cellsE_length _) (cellsE_one _) rfl rfl _ (heap_alloc_new _ _) rfl ?_; intro w5 hb5 hg5; have rE5 := block_cell hb5; have c0 := range_first rE5; have c1 := range_last rE5; have hbel5 := below_put (Below.refl wr.heap.size wr) hg5 (Nat.le_refl _) (Nat.le_refl _); have hc5 := (hbel5.cell (p := ⟨b, off + it, none⟩) hbz).trans hc))
                have hbel6 : Below w3.heap.size w3 _ := hbx.trans (hbel5.mono hbx.size)
                clear hg5 hb5 rE5 rE hc hbel5
                have e1 : decide (((t : Nat) : Int) ≤ ((it : Nat) : Int)) = false := by simp; omega
                have ew : IntKind.i64.wrap f = f := wrap_small (by omega) (by omega)
                have ex : IntKind.i64.wrap (-1 - (it : Int)) = -1 - (it : Int) := wrap_small (by omega) (by omega)
                go_quiet (fail)
                go_wp2
                go_roundw
                case rel => exact ⟨p + 1, ia, it + 1, rfl, by go_num, by go_num, by have := HP.out; show p + 1 = ia + (it + 1); omega, HS2, hia, by omega, below_quiet hbel6⟩
                case measure => simp [intOf]; omega
            · have hend := scan_end HS.out (by rw [HFA.out, HFB.out, ← HP.out]; exact hlt3)
              rw [HFA.out, HFB.out] at hend
              obtain ⟨rfl, rfl⟩ := hend
              have hbel6 := hbw3.trans (hbx.mono hbw3.size)
              go_wp2
              go_ret
              exact ⟨rfl, hbel6⟩
/-- Too long a row: true at once. -/
theorem inter_long (a0 : Option Addr) (len0 cap0 : Nat) (a1 : Option Addr) (len1 cap1 : Nat) (w : World) (h : 1024 < len0 ∨ 1024 < len1) :
    Calls Yba.prog 7 #[.slice a0 len0 cap0, .slice a1 len1 cap1] w fun e w' => e = .returned (.bool true) ∧ Below w.heap.size w w' := by
  by_cases h0 : 1024 < len0
  · go_enter Yba.func7, Yba.ntmps7
    go_wp2
    go_ret
    exact ⟨rfl, Below.refl _ _⟩
  · have h1 : 1024 < len1 := by omega
    go_enter Yba.func7, Yba.ntmps7
    go_wp2
    go_ret
    exact ⟨rfl, Below.refl _ _⟩
end Go.Proofs.Ybulkbaiq
