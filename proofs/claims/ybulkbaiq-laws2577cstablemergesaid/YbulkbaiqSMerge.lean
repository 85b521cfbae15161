/- LawS2577CStableMerge (function 6): the walk. -/
import Derived.Test.YbulkbaiqMake
import Derived.Test.YbulkbaiqStab
namespace Go.Proofs.Ybulkbaiq
open Go.RowKit
set_option linter.unusedSimpArgs false
set_option linter.unusedVariables false

set_option maxRecDepth 100000 in
set_option maxHeartbeats 4000000 in
theorem smerge_main (da db : List Int) (ca cb : Int) (a0 : Option Addr) (len0 cap0 : Nat) (a1 : Option Addr) (len1 cap1 : Nat) (w : World) (h0 : Arg .u8 w a0 len0 da) (h1 : Arg .u8 w a1 len1 db) (hl0 : len0 ≤ 1024) (hl1 : len1 ≤ 1024)
    (k0 : -128 ≤ ca) (k1 : ca ≤ 127) (k2 : -128 ≤ cb) (k3 : cb ≤ 127) :
    Calls Yba.prog 6 #[.slice a0 len0 cap0, .slice a1 len1 cap1, .int .i8 ca, .int .i8 cb] w fun e w' => e = .returned (.bool true) ∧ Below w.heap.size w w' := by
  obtain ⟨i0, hi, hz0, hz1, hz2⟩ := info_parts info68
  have hby : i0.bytes * (len0 + len1) ≤ 281474976710656 := by rw [hz2]; omega
  have HA := hide (bld_sorted false ca 0 da (fun d hd => by
    obtain ⟨k, hk, rfl⟩ := List.getElem_of_mem hd
    have := bounds_u8 (h0.2.2 k)
    simp [hk] at this
    omega))
  have HB := hide (bld_sorted true cb 0 db (fun d hd => by
    obtain ⟨k, hk, rfl⟩ := List.getElem_of_mem hd
    have := bounds_u8 (h1.2.2 k)
    simp [hk] at this
    omega))
  have HLA : Hid ((bld false ca 0 da).length = len0) := (bld_length _ _ _ _).trans h0.1
  have HLB : Hid ((bld true cb 0 db).length = len1) := (bld_length _ _ _ _).trans h1.1
  have H1 := hide h1
  clear h1
  go_enter Yba.func6, Yba.ntmps6
  go_wp2_with fail
  refine (build_any false da ca a0 len0 cap0 _ h0 hl0 k0 k1).mono ?_
  rintro e w1 ⟨rfl, hown1, hbel1⟩
  have hlt1 := own_lt hown1
  have H1' : Hid (Arg .u8 w1 a1 len1 db) := by
    obtain ⟨q1, q2, q3⟩ := H1.out
    refine ⟨q1, fun h => ?_, q3⟩
    obtain ⟨b, off, e1, e2, e3⟩ := q2 h
    exact ⟨b, off, e1, Nat.lt_of_lt_of_le e2 hbel1.size, fun t ht => (hbel1.cell (p := ⟨b, off + t, none⟩) e2).trans (e3 t ht)⟩
  have r1 := owns_range hown1
  clear h0 H1 hown1
  generalize bld false ca 0 da = A at HA HLA r1
  go_wp2_with fail
  refine (build_any true db cb a1 len1 cap1 _ H1'.out hl1 k2 k3).mono ?_
  rintro e w2 ⟨rfl, hown2, hbel2⟩
  have hlt2 := own_lt hown2
  have r2 := owns_range hown2
  have r1' := rangeAt_below r1 hbel2 hlt1
  have hb2 : Below w.heap.size w w2 := hbel1.trans (hbel2.mono hbel1.size)
  clear H1' hown2 r1 hbel1
  generalize bld true cb 0 db = B at HB HLB r2
  have s12 : w.heap.size < w1.heap.size := hlt1
  have s13 : w.heap.size < w2.heap.size := Nat.lt_of_lt_of_le hlt1 hbel2.size
  clear hbel2 hlt1
  go_wp2_with (first | (refine wpList_make_own _ rfl _ _ 60 rfl w2.heap.size 68 i0 _ 33 Yba.underlying60 hi hz0 hz1 .i64 .i64 _ (len0 + len1) rfl rfl (by omega) hby (by unfold maxLen; omega) (Nat.le_refl _) ?_; intro w3 hown3 hgrow3) | (at_builtin; refine wpList_append_fits_any _ rfl (.tmp 34) (.tmp 35) 60 rfl w2.heap.size 68 i0 33 Yba.underlying60 hi hz1 w2.heap.size 0 (len0 + len1) [] rfl hown3 (some ⟨w.heap.size, 0, none⟩) len0 len0 (flat A) rfl (by rw [flat_length, HLA.out]) (by simp) (cells_of (rangeAt_below r1' ((Below.refl w2.heap.size w2).grown hgrow3 (Nat.le_refl _) (fun k hk => by cases hk)) s13)) (flat_oneCell _) (by omega) ?_; intro w4 hown4 hgrow4; simp only [Nat.zero_add, List.nil_append] at hown4) | (at_builtin; refine wpList_append_fits_any _ rfl (.tmp 37) (.tmp 38) 60 rfl w2.heap.size 68 i0 33 Yba.underlying60 hi hz1 w2.heap.size len0 (len0 + len1) (flat A) rfl hown4 (some ⟨w1.heap.size, 0, none⟩) len1 len1 (flat B) rfl (by rw [flat_length, HLB.out]) (by simp) (cells_of (rangeAt_below r2 (((Below.refl w2.heap.size w2).grown hgrow3 (Nat.le_refl _) (fun k hk => by cases hk)).grown hgrow4 hgrow3.size (fun k hk => by injection hk with hk; omega)) hlt2)) (flat_oneCell _) (Nat.le_refl _) ?_; intro w5 hown5 hgrow5))
  have hbl : Blk w5 w2.heap.size (A ++ B) := Blk.of_owns (by rw [flat_append]; exact hown5)
  have hb25 : Below w2.heap.size w2 w5 := (((Below.refl w2.heap.size w2).grown hgrow3 (Nat.le_refl _) (fun k hk => by cases hk)).grown hgrow4 hgrow3.size (fun k hk => by injection hk with hk; omega)).grown hgrow5 (Nat.le_trans hgrow3.size hgrow4.size) (fun k hk => by injection hk with hk; omega)
  have HLAB : Hid ((A ++ B).length = len0 + len1) := by
    show (A ++ B).length = len0 + len1
    rw [List.length_append, HLA.out, HLB.out]
  clear hown3 hown4 hown5 hgrow3 hgrow4 hgrow5
  refine (sort_any (A ++ B) w2.heap.size (len0 + len1) _ HLAB.out hbl (by omega)).mono ?_
  rintro e w6 ⟨rfl, D, hBD, R, S, g6⟩
  have hb26 : Below w2.heap.size w2 w6 := hb25.grown g6 hb25.size (fun k hk => by injection hk with hk; omega)
  have hDL : D.length = len0 + len1 := R.len.trans HLAB.out
  have hDM : D = mrg A B := stable_is_merge HA.out HB.out R.fil (by rw [hDL]; exact S)
  have r1'' := rangeAt_below r1' hb26 s13
  have r2'' := rangeAt_below r2 hb26 hlt2
  have l1 : w.heap.size < w6.heap.size := Nat.lt_of_lt_of_le s13 hb26.size
  have l2 : w1.heap.size < w6.heap.size := Nat.lt_of_lt_of_le hlt2 hb26.size
  have rW := hBD.whole
  have lW := hBD.lt
  have HDL := hide hDL
  have HDM := hide hDM
  clear R S g6 hbl hb25 r1' r2 hDL hDM hBD
  go_wp2_with fail
  refine (merge_any A B w.heap.size w1.heap.size len0 len1 _ HLA.out HLB.out l1 l2 r1'' r2'' hl0 hl1).mono ?_
  rintro e w7 ⟨rfl, hown7, hbel7⟩
  have rG := owns_range hown7
  have lG := own_lt hown7
  rw [← HDM.out] at rG
  have rW7 := rangeAt_below rW hbel7 lW
  have hb7 : Below w.heap.size w w7 := (hb2.trans (hb26.mono hb2.size)).trans (hbel7.mono (Nat.le_of_lt l1))
  have lW7 : w2.heap.size < w7.heap.size := Nat.lt_of_lt_of_le lW hbel7.size
  clear hown7 r1'' r2'' rW hb26 hb2 hbel7
  go_wp2
  go_loopw [52] (fun v wr => ∃ i : Nat, v = .int .i64 i ∧ i ≤ len0 + len1 ∧ Below w7.heap.size w7 wr) (fun v _ => len0 + len1 - (intOf v).toNat)
  case atStart => exact ⟨0, rfl, Nat.zero_le _, Below.refl _ _⟩
  case round =>
    obtain ⟨i, rfl, hil, hbx⟩ := hrel
    by_cases hlt : i < len0 + len1
    · have rg := rangeAt_below (range_elem rG i (by rw [HDL.out]; exact hlt)) hbx lG
      have rw' := rangeAt_below (range_elem rW7 i (by rw [HDL.out]; exact hlt)) hbx lW7
      rw [Nat.zero_add] at rg rw'
      have cg0 := range_first rg
      have cg1 := range_last rg
      have cw0 := range_first rw'
      have cw1 := range_last rw'
      have bi : (i : Int) < (len0 : Int) + (len1 : Int) := by omega
      clear rg rw' rG rW7
      generalize D.getD i (0, 0) = x at cg0 cg1 cw0 cw1
      have t0 : (x.1 != x.1) = false := by simp
      go_wp2
      go_quiet (fail)
      have hbx2 : Below w7.heap.size w7 _ := below_quiet (n := nq) hbx
      go_wp2
      go_roundw
      case rel => exact ⟨i + 1, by go_num, by omega, hbx2⟩
      case measure => simp [intOf]; omega
    · go_wp2
      go_ret
      exact ⟨rfl, hb7.trans (hbx.mono hb7.size)⟩

/-- Too long a row: true at once. -/
theorem smerge_long (ca cb : Int) (a0 : Option Addr) (len0 cap0 : Nat) (a1 : Option Addr) (len1 cap1 : Nat) (w : World) (h : 1024 < len0 ∨ 1024 < len1) :
    Calls Yba.prog 6 #[.slice a0 len0 cap0, .slice a1 len1 cap1, .int .i8 ca, .int .i8 cb] w fun e w' => e = .returned (.bool true) ∧ Below w.heap.size w w' := by
  by_cases h0 : 1024 < len0
  · go_enter Yba.func6, Yba.ntmps6
    go_wp2
    go_ret
    exact ⟨rfl, Below.refl _ _⟩
  · have h1 : 1024 < len1 := by omega
    go_enter Yba.func6, Yba.ntmps6
    go_wp2
    go_ret
    exact ⟨rfl, Below.refl _ _⟩
end Go.Proofs.Ybulkbaiq
