/- packet.LawS2578BUnion (3). -/
import Derived.Test.YbulkbajeHas
namespace Go.Proofs.Ybulkbaje
open Go.RowKit
set_option linter.unusedSimpArgs false
set_option linter.unusedVariables false

theorem idx_lt (n0 : Nat) (R : List Int) (p0 : 1 ≤ n0) (t : Nat) : (idxOf n0 R).getD t 0 < n0 := by
  unfold idxOf
  by_cases ht : t < R.length
  · have h1 := Int.emod_lt_of_pos R[t] (show (0 : Int) < (n0 : Int) by omega)
    have h2 := Int.emod_nonneg R[t] (show (n0 : Int) ≠ 0 by omega)
    simp [ht]
    omega
  · simp [ht]
    omega
theorem dat_bounds {w : World} {a0 : Option Addr} {n0 : Nat} {L : List (List Int)} (h : Dat w a0 n0 L) (hli : ∀ i, i < n0 → (L.getD i []).length ≤ 256) : (∀ i, (L.getD i []).length ≤ 256) ∧ ∀ i, ∀ v ∈ L.getD i [], 0 ≤ v ∧ v ≤ 65535 := by
  have hout : ∀ i, ¬ i < n0 → L.getD i [] = [] := fun i hi => by
    rw [List.getD_eq_getElem?_getD, List.getElem?_eq_none (by rw [h.1]; omega)]
    rfl
  refine ⟨fun i => ?_, fun i v hv => ?_⟩
  · by_cases hi : i < n0
    · exact hli i hi
    · rw [hout i hi]; simp
  · by_cases hi : i < n0
    · obtain ⟨b, off, _, _, hc⟩ := h.2 (by omega)
      obtain ⟨ai, ni, ci, _, hA⟩ := hc i hi
      obtain ⟨t, ht, rfl⟩ := List.getElem_of_mem hv
      have h3 := u16_bound (hA.2.2 t)
      rw [List.getD_eq_getElem?_getD, List.getElem?_eq_getElem ht] at h3
      exact h3
    · rw [hout i hi] at hv; simp at hv
theorem in_cells {w : World} {b n1 : Nat} {I : List Nat} (h : ArgN w (some ⟨b, 0, none⟩) n1 I) (t : Nat) (ht : t < n1) : w.cell? ⟨b, 0 + t, none⟩ = some (.int .i64 ((I.getD t 0 : Nat) : Int)) := by
  obtain ⟨b', off', e, _, hc⟩ := h.2 (by omega)
  simp only [Option.some.injEq, Addr.mk.injEq, and_true] at e
  obtain ⟨rfl, rfl⟩ := e
  exact hc t ht
theorem argN_lt {w : World} {b n1 : Nat} {I : List Nat} (h : ArgN w (some ⟨b, 0, none⟩) n1 I) (h1 : 1 ≤ n1) : b < w.heap.size := by
  obtain ⟨b', off', e, hl, _⟩ := h.2 (by omega)
  simp only [Option.some.injEq, Addr.mk.injEq, and_true] at e
  obtain ⟨rfl, rfl⟩ := e
  exact hl
theorem idx_length {n0 n1 : Nat} {R : List Int} (h : R.length = n1) : (idxOf n0 R).length = n1 := by rw [idxOf, List.length_map]; exact h

theorem eql_slnil (w : World) : (binOp BinOp.eql 29 (.slice none 0 0) (.slice none 0 0)).run Yba.prog w = .ok (.bool true) w := by kernel_rfl
attribute [local go_sem] eql_slnil eql_mapnil
/-- The receiver whose first field is the last, as the law lays it. -/
theorem lr_rows (wr : World) (X : World) (hX : X = ((((((wr.alloc (Obj.cells #[] 57)).alloc (Obj.cells #[Value.iface 31 (Value.slice (some ⟨wr.heap.size, 0, none⟩) 0 0)] 77)).alloc (Obj.cells #[] 77)).alloc (Obj.cells #[Value.slice (some ⟨wr.heap.size + 1 + 1, 0, none⟩) 0 0] 38)).alloc (Obj.cells #[Value.slice (some ⟨wr.heap.size + 1, 0, none⟩) 1 1, Value.slice (some ⟨wr.heap.size + 1 + 1 + 1, 0, none⟩) 1 1] 41)).alloc (Obj.cells #[Value.slice (some ⟨wr.heap.size + 1 + 1 + 1 + 1, 0, none⟩) 1 1, Value.map none, Value.slice none 0 0, Value.slice none 0 0, Value.slice none 0 0] 45)).alloc (Obj.cells #[Value.int IntKind.i64 0] 3)) :
    Row X (wr.heap.size + 1 + 1 + 1 + 1 + 1) [.slice (some ⟨wr.heap.size + 1 + 1 + 1 + 1, 0, none⟩) 1 1, .map none, .slice none 0 0, .slice none 0 0, .slice none 0 0] 45 ∧ Row X (wr.heap.size + 1 + 1 + 1 + 1) [.slice (some ⟨wr.heap.size + 1, 0, none⟩) 1 1, .slice (some ⟨wr.heap.size + 1 + 1 + 1, 0, none⟩) 1 1] 41 ∧
    Row X (wr.heap.size + 1 + 1 + 1) [.slice (some ⟨wr.heap.size + 1 + 1, 0, none⟩) 0 0] 38 ∧ Row X (wr.heap.size + 1 + 1 + 1 + 1 + 1 + 1) [.int .i64 0] 3 ∧ Below wr.heap.size wr X := by
  subst hX
  have rn : ∀ (v : World) (n : Nat), v.heap.size = n → ∀ (cs : List Value) (t : TypeId), Row (v.alloc (.cells cs.toArray t)) n cs t := fun v n h cs t => h ▸ row_new v cs t
  refine ⟨?_, ?_, ?_, ?_, ?_⟩
  · exact row_alloc (rn _ _ (by simp) _ _) _
  · exact row_alloc (row_alloc (rn _ _ (by simp) _ _) _) _
  · exact row_alloc (row_alloc (row_alloc (rn _ _ (by simp) _ _) _) _) _
  · exact rn _ _ (by simp) _ _
  · exact (((((((Below.refl _ wr).alloc (by simp) _).alloc (by simp; try omega) _).alloc (by simp; try omega) _).alloc (by simp; try omega) _).alloc (by simp; try omega) _).alloc (by simp; try omega) _).alloc (by simp; try omega) _

set_option maxRecDepth 100000 in
set_option maxHeartbeats 1600000 in
theorem union_any (L : List (List Int)) (R : List Int) (a0 : Option Addr) (n0 c0 : Nat) (a1 : Option Addr) (n1 c1 : Nat) (w : World) (h0 : Dat w a0 n0 L) (h1 : Arg .u8 w a1 n1 R) (b0 : n0 ≤ 9223372036854775807) (b1 : n1 ≤ 9223372036854775807) (bi : ∀ i, i < n0 → (L.getD i []).length ≤ 9223372036854775807) :
    Calls Yba.prog 3 #[.slice a0 n0 c0, .slice a1 n1 c1] w fun e w' => e = .returned (.bool true) ∧ Below w.heap.size w w' := by
  have HD := hide h0
  have HA := hide h1
  have HBI := hide bi
  clear h0 h1 bi
  go_enter Yba.func3, Yba.ntmps3
  go_wp2_with (go_at_call 5; refine (ok_any L a0 n0 c0 a1 n1 c1 w HD.out b0 b1 HBI.out).mono ?_; rintro e w' ⟨rb, rfl, hw, hok⟩; have hw := hw.symm; subst hw; cases rb)
  · go_ret
    exact ⟨rfl, Below.refl _ _⟩
  obtain ⟨p0, q0, p1, q1, hli⟩ := hok trivial
  have HLI := hide hli
  obtain ⟨hli2, hlv2⟩ := dat_bounds HD.out hli
  have HLI2 := hide hli2
  have HLV2 := hide hlv2
  have HLT : Hid (∀ t, t < n1 → (idxOf n0 R).getD t 0 < n0) := fun t _ => idx_lt n0 R p0 t
  have HIL : Hid ((idxOf n0 R).length = n1) := idx_length HA.out.1
  clear hok hli hli2 hlv2
  go_wp2_with (first
    | (go_at_call 6; refine (idx_any R a0 n0 c0 a1 n1 c1 w HA.out p0 q0 q1).mono ?_; rintro e w6 ⟨rfl, ho6, hb6⟩; have HN6 := hide (argN_of ho6 HIL.out); have HB6 := hide hb6; have hlt6 := argN_lt HN6.out p1; clear ho6 hb6)
    | (go_at_call 7; refine (build_any L a0 n0 c0 w6 (HD.out.below HB6.out) p0 q0 HLI.out).mono ?_; rintro e w7 ⟨r, rfl, hr7, hrow7, hrows7, hb7⟩; have HROW7 := hide hrow7; have HROWS7 := hide hrows7; have HB7 := hide hb7; clear hrow7 hrows7 hb7)
    | (go_at_call 8; refine (of_any L (idxOf n0 R) w.heap.size 0 n1 n1 w6.heap.size n0 r none none 0 0 0 0 (.map none) (.slice none 0 0) [] [] w7 (by omega) (in_cells (HN6.out.below HB7.out)) HIL.out p1 q1 HLT.out q0 HROW7.out HROWS7.out (World.ownsRow_nil _ _ _ _) (World.ownsRow_nil _ _ _ _) HLI2.out HLV2.out (.inl ⟨rfl, rfl⟩)).mono ?_; rintro e w8 ⟨gk, p, capk, g3, cap3, _, _, hk8, hfst, _⟩; obtain ⟨M, aO, cO, a, m, c, U, rfl, hm, hT, hU, _, _⟩ := hfst rfl; have HK8 := hide hk8; have HT8 := hide hT; have HU := hide hU; clear hk8 hfst hT hU))
  have HBA : Hid (Below w.heap.size w (w8.alloc (.cells #[.slice none 0 0, .slice a m c] 33))) := (HB6.out.trans ((HB7.out.trans (HK8.out.bel.mono hr7)).mono HB6.out.size)).alloc (Nat.le_trans HB6.out.size (Nat.le_trans HB7.out.size HK8.out.size)) _
  have HDA := hide (HD.out.below HBA.out)
  have HNA := hide (HN6.out.below ((HB7.out.trans (HK8.out.bel.mono hr7)).alloc (Nat.le_trans HB7.out.size HK8.out.size) (.cells #[.slice none 0 0, .slice a m c] 33)))
  have HSA := hide (HT8.out.argS.below ((Below.refl _ w8).alloc (Nat.le_refl _) (.cells #[.slice none 0 0, .slice a m c] 33)))
  have HRA : Hid (Row (w8.alloc (.cells #[.slice none 0 0, .slice a m c] 33)) w8.heap.size [.slice none 0 0, .slice a m c] 33) := row_new w8 _ _
  clear HROW7 HROWS7 HB7 HK8 HT8 HN6 HB6 hr7
  generalize w8.alloc (.cells #[.slice none 0 0, .slice a m c] 33) = wA at *
  generalize w8.heap.size = T at *
  have hmix := Yba.laysPdq.mixed
  go_loopw [8] (fun v wr => ∃ k : Nat, v = .int .u64 k ∧ k ≤ 72 ∧ Hid (Below wA.heap.size wA wr)) (fun v _ => 72 - (intOf v).toNat)
  case atStart => exact ⟨0, rfl, Nat.zero_le _, Below.refl _ _⟩
  case round =>
    obtain ⟨k, rfl, hk, HB⟩ := hrel
    by_cases hk72 : k < 72
    · obtain ⟨bb, hbb⟩ : ∃ bb, inB L (idxOf n0 R) (k : Int) = bb := ⟨_, rfl⟩
      have hr := HRA.out.below HB.out
      have cT := hr.cell (j := 1) rfl
      have e9 : Calls Yba.prog 9 #[.slice a m c, .int .u64 (k : Int)] wr fun e w' => e = .returned (.bool bb) ∧ Below wr.heap.size wr w' := by
        have h := has_any U a m c (k : Int) wr (HSA.out.below HB.out) (by omega)
        rw [HU.out, hbb] at h
        exact h
      have e10 : Hid (∀ w9, Below wr.heap.size wr w9 → Calls Yba.prog 10 #[.slice a0 n0 c0, .slice (some ⟨w.heap.size, 0, none⟩) n1 n1, .int .u64 (k : Int)] w9 fun e w' => e = .returned (.bool bb) ∧ w' = w9) := fun w9 hb => by
        have h := in_any L (idxOf n0 R) a0 n0 c0 (some ⟨w.heap.size, 0, none⟩) n1 n1 (k : Int) w9 (HDA.out.below (HB.out.trans (hb.mono HB.out.size))) (HNA.out.below (HB.out.trans (hb.mono HB.out.size))) HLT.out q0 q1 HLI.out
        rw [hbb] at h
        exact h
      have hTlt := hr.lt
      clear hr hbb
      go_wp2_with (first
        | (go_at_call 9; refine e9.mono ?_; rintro e w9 ⟨rfl, hb9⟩; have HB9 := hide hb9; clear hb9)
        | (go_at_call 10; refine (e10.out w9 HB9.out).mono ?_; rintro e w10 ⟨rfl, hw10⟩; have hw10 := hw10.symm; subst hw10))
      refine ⟨⟨k + 1, by go_num, by omega, HB.out.trans (HB9.out.mono HB.out.size)⟩, ?_⟩
      simp [intOf]
      omega
    · obtain rfl : k = 72 := by omega
      go_wp2_with (go_at_call 8; obtain ⟨y1, y2, y3, y4, y5⟩ := lr_rows wr _ rfl; refine (of_last _ _ _ _ _ (.bool true) _ _ _ _ _ _ _ y1 y2 y3 y4).mono ?_; rintro e w9 ⟨rfl, hb9⟩; have hY := y1.below hb9; have HY := hide (y5.trans (hb9.mono y5.size)); have cY := (row_alloc hY (.cells #[.slice none 0 0, .slice none 0 0] 33)).cell (j := 1) rfl; clear y1 y2 y3 y4 y5 hb9 hY)
      go_ret
      have hB9 := HBA.out.trans ((HB.out.trans (HY.out.mono HB.out.size)).mono HBA.out.size)
      exact ⟨rfl, hB9.alloc hB9.size _⟩
end Go.Proofs.Ybulkbaje
