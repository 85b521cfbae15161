/- packet.LawS2578BKept (4). -/
import Derived.Test.YbulkbajeUnion
import Derived.Test.YbulkbajeLibs
namespace Go.Proofs.Ybulkbaje
open Go.RowKit
set_option linter.unusedSimpArgs false
set_option linter.unusedVariables false

theorem rev_lt {I : List Nat} {n0 n1 : Nat} (hI : I.length = n1) (h : ∀ t, t < n1 → I.getD t 0 < n0) (t : Nat) (ht : t < n1) : I.reverse.getD t 0 < n0 := by
  have h1 := getD_mem I.reverse t 0 (by rw [List.length_reverse, hI]; exact ht)
  obtain ⟨j, hj, e⟩ := List.getElem_of_mem (List.mem_reverse.1 h1)
  have h2 := h j (by omega)
  rw [← e]
  rw [List.getD_eq_getElem?_getD, List.getElem?_eq_getElem hj] at h2
  exact h2
theorem srt_rev (I : List Nat) : srt I.reverse = srt I := srt_congr (List.reverse_perm I)
theorem cells_keep {r g n : Nat} {w w' : World} {I : List Nat} (h : ArgN w (some ⟨g, 0, none⟩) n I) (hk : Below r w w') (hg : g < r) (t : Nat) (ht : t < n) : w'.cell? ⟨g, 0 + t, none⟩ = some (.int .i64 ((I.getD t 0 : Nat) : Int)) :=
  (hk.cell (p := ⟨g, 0 + t, none⟩) hg).trans (argN_cell h t ht)
theorem argN_keep {r g n : Nat} {w w' : World} {I : List Nat} (h : ArgN w (some ⟨g, 0, none⟩) n I) (hk : Below r w w') (hg : g < r) : ArgN w' (some ⟨g, 0, none⟩) n I := by
  refine ⟨h.1, fun hn => ?_⟩
  obtain ⟨b, off, e, hl, _⟩ := h.2 hn
  simp only [Option.some.injEq, Addr.mk.injEq, and_true] at e
  obtain ⟨rfl, rfl⟩ := e
  exact ⟨g, 0, rfl, Nat.lt_of_lt_of_le hl hk.size, fun t ht => cells_keep h hk hg t ht⟩
/-- What stands when both calls of 'of' are behind. -/
structure Both (L : List (List Int)) (I : List Nat) (a0 : Option Addr) (n0 n1 b r M T1 T2 g3 cap3 : Nat) (k0 k3 : Value) (aO : Option Addr) (cO : Nat) (a : Option Addr) (m c : Nat) (U : List (Int × Int)) (w wQ : World) : Prop where
  bel : Below w.heap.size w wQ
  row : Row wQ r [k0, .map (some M), .slice aO 1 cO, k3, .slice (some ⟨g3, 0, none⟩) n1 cap3] 45
  one : Row wQ T1 [.slice none 0 0, .slice a m c] 33
  two : Row wQ T2 [.slice none 0 0, .slice a m c] 33
  map : ∃ K ps, Map1 wQ M K ps
  runs : ArgS wQ a m U
  dat : Dat wQ a0 n0 L
  inn : ArgN wQ (some ⟨b, 0, none⟩) n1 I
  srt : ArgN wQ (some ⟨g3, 0, none⟩) n1 (srt I)

theorem both_of {L : List (List Int)} {I : List Nat} {a0 : Option Addr} {n0 n1 r M T1 g3 cap3 : Nat} {k0 k3 : Value} {aO : Option Addr} {cO : Nat} {a : Option Addr} {m c : Nat} {U : List (Int × Int)} {w w7 wP w9 : World} {K : ByteArray} {ps : Value}
    (hb7 : Below w.heap.size w w7) (hkP : Keep r w7 wP) (hk9 : Keep r wP w9) (hwr : w.heap.size < r) (hr7 : r < w7.heap.size) (hrow : Row w9 r [k0, .map (some M), .slice aO 1 cO, k3, .slice (some ⟨g3, 0, none⟩) n1 cap3] 45) (hT1 : Row wP T1 [.slice none 0 0, .slice a m c] 33)
    (hM : Map1 wP M K ps) (hT : ArgT wP a m U) (hD : Dat w a0 n0 L) (hN : ArgN w7 (some ⟨w.heap.size, 0, none⟩) n1 I) (hO : w9.ownsRow r 3 1 (.slice (some ⟨g3, 0, none⟩) n1 cap3) n1 ((srt I.reverse).map encN)) (hI : I.length = n1) :
    Both L I a0 n0 n1 w.heap.size r M T1 w9.heap.size g3 cap3 k0 k3 aO cO a m c U w (w9.alloc (.cells #[.slice none 0 0, .slice a m c] 33)) := by
  have hr9 : r ≤ w9.heap.size := Nat.le_trans (Nat.le_of_lt hr7) (Nat.le_trans hkP.size hk9.size)
  have hka := hk9.alloc hr9 (.cells #[.slice none 0 0, .slice a m c] 33)
  have hbel : Below w.heap.size w (w9.alloc (.cells #[.slice none 0 0, .slice a m c] 33)) := hb7.trans ((hkP.bel.trans hka.bel).mono (Nat.le_of_lt hwr))
  refine ⟨hbel, row_alloc hrow _, hka.row (by decide) hT1, row_new w9 [.slice none 0 0, .slice a m c] 33, ⟨K, ps, hM.keep hka⟩, (hT.keep hka).argS, hD.below hbel, argN_keep hN (hkP.bel.trans hka.bel) hwr, ?_⟩
  rw [srt_rev] at hO
  exact (argN_of hO (by rw [srt_length]; exact hI)).below ((Below.refl _ w9).alloc (Nat.le_refl _) _)

attribute [local go_sem] eql_slnil eql_mapnil

set_option maxRecDepth 100000 in
set_option maxHeartbeats 1600000 in
theorem kept_any (L : List (List Int)) (R : List Int) (a0 : Option Addr) (n0 c0 : Nat) (a1 : Option Addr) (n1 c1 : Nat) (w : World) (h0 : Dat w a0 n0 L) (h1 : Arg .u8 w a1 n1 R) (b0 : n0 ≤ 9223372036854775807) (b1 : n1 ≤ 9223372036854775807) (bi : ∀ i, i < n0 → (L.getD i []).length ≤ 9223372036854775807) :
    Calls Yba.prog 4 #[.slice a0 n0 c0, .slice a1 n1 c1] w fun e w' => e = .returned (.bool true) ∧ Below w.heap.size w w' := by
  have HD := hide h0
  have HA := hide h1
  have HBI := hide bi
  clear h0 h1 bi
  go_enter Yba.func4, Yba.ntmps4
  go_wp2_with (go_at_call 5; refine (ok_any L a0 n0 c0 a1 n1 c1 w HD.out b0 b1 HBI.out).mono ?_; rintro e w' ⟨rb, rfl, hw, hok⟩; have hw := hw.symm; subst hw; cases rb)
  · go_ret
    exact ⟨rfl, Below.refl _ _⟩
  obtain ⟨p0, q0, p1, q1, hli⟩ := hok trivial
  have HLI := hide hli
  obtain ⟨hli2, hlv2⟩ := dat_bounds HD.out hli
  have HLI2 := hide hli2
  have HLV2 := hide hlv2
  have HLT : Hid (∀ t, t < n1 → (idxOf n0 R).getD t 0 < n0) := fun t _ => idx_lt n0 R p0 t
  have HIL : Hid ((idxOf n0 R).length = n1) := idx_length HA.out.1
  clear hok hli hli2 hlv2
  go_wp2_with (go_at_call 6; refine (idx_any R a0 n0 c0 a1 n1 c1 w HA.out p0 q0 q1).mono ?_; rintro e w6 ⟨rfl, ho6, hb6⟩; have HN6 := hide (argN_of ho6 HIL.out); have HB6 := hide hb6; have hlt6 := argN_lt HN6.out p1; clear ho6 hb6)
  clear HA
  generalize idxOf n0 R = I at *
  go_wp2_with (first
    | (go_at_call 11; refine (clone11 I w.heap.size n1 n1 w6 HN6.out p1 q1).mono ?_; rintro e w11 ⟨g11, cap11, rfl, hg11, ho11, hb11⟩; have HO11 := hide ho11; have HB11 := hide hb11; clear ho11 hb11)
    | (go_at_call 12; refine (rev12 I w6.heap.size g11 n1 cap11 w11 HIL.out q1 HO11.out).mono ?_; rintro e w12 ⟨rfl, hN12, hg12⟩; have HN12 := hide hN12; have HB12 := hide (below_own HB11.out hg12 hg11 HB11.out.size); have hlt12 := argN_lt HN12.out p1; have hsz12 := HB12.out.size; clear hN12 hg12)
    | (go_at_call 7; refine (build_any L a0 n0 c0 w12 (HD.out.below (HB6.out.trans (HB12.out.mono HB6.out.size))) p0 q0 HLI.out).mono ?_; rintro e w7 ⟨r, rfl, hr7, hrow7, hrows7, hb7⟩; have HROW7 := hide hrow7; have HROWS7 := hide hrows7; have HB7 := hide hb7; have hrlt := HROW7.out.lt; clear hrow7 hrows7 hb7))
  have HNI := hide ((HN6.out.below HB12.out).below HB7.out)
  have HNR := hide (HN12.out.below HB7.out)
  have HBW7 := hide (HB6.out.trans ((HB12.out.trans (HB7.out.mono HB12.out.size)).mono HB6.out.size))
  clear HN6 HN12 HB6 HB11 HB12 HO11 HB7
  go_wp2_with (first
    | (go_at_call 8; refine (of_any L I.reverse g11 0 n1 cap11 w12.heap.size n0 r (some ⟨gk, 0, none⟩) (some ⟨g3, 0, none⟩) p capk n1 cap3 (.map (some M)) (.slice aO 1 cO) _ _ (w8.alloc (.cells #[.slice none 0 0, .slice a m c] 33)) (by omega) (cells_keep HNR.out HKP.out.bel (by omega)) (by rw [List.length_reverse]; exact HIL.out) p1 q1 (rev_lt HIL.out HLT.out) q0 HROWP.out HRSP.out HORP.out HOKP.out HLI2.out HLV2.out (.inr ⟨M, a, m, c, rfl, HMP.out⟩)).mono ?_; rintro e w9 ⟨gk', p', capk', g3', cap3', _, hoR9, hk9, _, hsnd⟩; obtain ⟨rfl, hrow9⟩ := hsnd M a m c rfl HMP.out; have HBO := hide (both_of HBW7.out HKP.out hk9 (by omega) hrlt hrow9 HRT1.out HMP.out HTP.out HD.out HNI.out hoR9 HIL.out); have cR1 := HBO.out.row.cell (j := 1) rfl; have cR2 := HBO.out.row.cell (j := 2) rfl; obtain ⟨Kq, psq, hmapq⟩ := HBO.out.map; have l1 := fun ty => len_one hmapq ty; clear hsnd hrow9 hk9 hoR9 hmapq)
    | (go_at_call 8; refine (of_any L I w.heap.size 0 n1 n1 w12.heap.size n0 r none none 0 0 0 0 (.map none) (.slice none 0 0) [] [] w7 (by omega) (in_cells HNI.out) HIL.out p1 q1 HLT.out q0 HROW7.out HROWS7.out (World.ownsRow_nil _ _ _ _) (World.ownsRow_nil _ _ _ _) HLI2.out HLV2.out (.inl ⟨rfl, rfl⟩)).mono ?_; rintro e w8 ⟨gk, p, capk, g3, cap3, hoK, hoR, hk8, hfst, _⟩; obtain ⟨M, aO, cO, a, m, c, U, rfl, hm, hT, hU, hM8, hrow8⟩ := hfst rfl; have HOK := hide hoK; have HOR := hide hoR; have HK8 := hide hk8; have HT8 := hide hT; have HU := hide hU; have HM8 := hide hM8; have HROW8 := hide hrow8; clear hoK hoR hk8 hfst hT hU hM8 hrow8; have hr8 : r ≤ w8.heap.size := Nat.le_trans (Nat.le_of_lt hrlt) HK8.out.size; have HKa : Hid (Keep r w8 (w8.alloc (.cells #[.slice none 0 0, .slice a m c] 33))) := (Keep.refl r w8).alloc hr8 _; have HKP := hide (HK8.out.trans HKa.out); have HROWP := hide (row_alloc HROW8.out (.cells #[.slice none 0 0, .slice a m c] 33)); have HOKP := hide (HOK.out.alloc (.cells #[.slice none 0 0, .slice a m c] 33)); have HORP := hide (HOR.out.alloc (.cells #[.slice none 0 0, .slice a m c] 33)); have HTP := hide (HT8.out.keep HKa.out); have HMP := hide (p := Map1 (w8.alloc (.cells #[.slice none 0 0, .slice a m c] 33)) M (strOf ((srt I.reverse).flatMap uvN)) (.agg #[.slice none 0 0, .slice a m c])) (by rw [srt_rev]; exact HM8.out.keep HKa.out); have HRT1 : Hid (Row (w8.alloc (.cells #[.slice none 0 0, .slice a m c] 33)) w8.heap.size [.slice none 0 0, .slice a m c] 33) := row_new w8 _ _; have HRSP := hide (HROWS7.out.keep HKP.out); clear HKa HROW8 HOK HOR HT8 HM8 HROWS7 HROW7 HK8 hr8))
  generalize w9.alloc (.cells #[.slice none 0 0, .slice a m c] 33) = wQ at *
  generalize w9.heap.size = T2 at *
  generalize w8.heap.size = T1 at *
  clear cR1 cR2 l1 HNI HNR HBW7 HKP HROWP HOKP HORP HTP HMP HRT1 HRSP
  go_wp2_with (first
    | (go_at_call 11; refine (clone11 I w.heap.size n1 n1 wQ HBO.out.inn p1 q1).mono ?_; rintro e w13 ⟨g13, cap13, rfl, hg13, ho13, hb13⟩; have HO13 := hide ho13; have HB13 := hide hb13; clear ho13 hb13)
    | (go_at_call 13; refine (sort13 I wQ.heap.size g13 n1 cap13 w13 HIL.out (by omega) HO13.out).mono ?_; rintro e w14 ⟨rfl, ho14, hg14⟩; have HB14 := hide (below_own HB13.out hg14 hg13 HB13.out.size); have HO14 := hide ho14; have cR4 := (HBO.out.row.below HB14.out).cell (j := 4) rfl; clear ho14 hg14)
    | (go_at_call 14; refine (equal14 (srt I) g13 n1 cap13 g3' cap3' w14 (argN_of HO14.out (by rw [srt_length]; exact HIL.out)) (HBO.out.srt.below HB14.out) q1).mono ?_; rintro e w15 ⟨rfl, q, hq⟩; have HB15 := hide (p := Below wQ.heap.size wQ w15) (by rw [hq]; exact below_quiet HB14.out); have c10 := (HBO.out.one.below HB15.out).cell (j := 0) rfl; have c20 := (HBO.out.two.below HB15.out).cell (j := 0) rfl; clear hq cR4))
  go_loopw [11] (fun v wr => ∃ k : Nat, v = .int .u64 k ∧ k ≤ 72 ∧ Hid (Below wQ.heap.size wQ wr)) (fun v _ => 72 - (intOf v).toNat)
  case atStart => exact ⟨0, rfl, Nat.zero_le _, HB15.out⟩
  case round =>
    obtain ⟨k, rfl, hk, HB⟩ := hrel
    clear c10 c20 HB15 HB14 HO14 HB13 HO13
    by_cases hk72 : k < 72
    · obtain ⟨bb, hbb⟩ : ∃ bb, inB L I (k : Int) = bb := ⟨_, rfl⟩
      have hr1 := HBO.out.one.below HB.out
      have cT1 := hr1.cell (j := 1) rfl
      have hT1lt := hr1.lt
      have e10 : Calls Yba.prog 10 #[.slice a0 n0 c0, .slice (some ⟨w.heap.size, 0, none⟩) n1 n1, .int .u64 (k : Int)] wr fun e w' => e = .returned (.bool bb) ∧ w' = wr := by
        have h := in_any L I a0 n0 c0 (some ⟨w.heap.size, 0, none⟩) n1 n1 (k : Int) wr (HBO.out.dat.below HB.out) (HBO.out.inn.below HB.out) HLT.out q0 q1 HLI.out
        rw [hbb] at h
        exact h
      have e9 : Hid (∀ w9, Below wr.heap.size wr w9 → Calls Yba.prog 9 #[.slice a m c, .int .u64 (k : Int)] w9 fun e w' => e = .returned (.bool bb) ∧ Below w9.heap.size w9 w') := fun w9 hb => by
        have h := has_any U a m c (k : Int) w9 (HBO.out.runs.below (HB.out.trans (hb.mono HB.out.size))) (by omega)
        rw [HU.out, hbb] at h
        exact h
      clear hr1 hbb
      go_wp2_with (first
        | (go_at_call 10; refine e10.mono ?_; rintro e w10 ⟨rfl, hw10⟩; have hw10 := hw10.symm; subst hw10)
        | (go_at_call 9; refine (e9.out wa HBa.out).mono ?_; rintro e wb ⟨rfl, hbw⟩; have HBb := hide hbw; clear hbw)
        | (go_at_call 9; refine (e9.out wr (Below.refl _ _)).mono ?_; rintro e wa ⟨rfl, hba⟩; have HBa := hide hba; have cT2 := (HBO.out.two.below (HB.out.trans (HBa.out.mono HB.out.size))).cell (j := 1) rfl; clear hba))
      refine ⟨⟨k + 1, by go_num, by omega, (HB.out.trans (HBa.out.mono HB.out.size)).trans (HBb.out.mono (HB.out.trans (HBa.out.mono HB.out.size)).size)⟩, ?_⟩
      simp [intOf]
      omega
    · obtain rfl : k = 72 := by omega
      go_wp2
      go_ret
      exact ⟨rfl, HBO.out.bel.trans (HB.out.mono HBO.out.bel.size)⟩
end Go.Proofs.Ybulkbaje
