/- zzs2578bbuild (7). -/
import Derived.Test.YbulkbajeHeap
namespace Go.Proofs.Ybulkbaje
open Go.RowKit
set_option linter.unusedSimpArgs false
set_option linter.unusedVariables false

theorem info38 : (Yba.prog.info? 38).map (fun i => (i.zero, i.size, i.bytes)) = some (some (.slice none 0 0), 1, 24) := by kernel_rfl
theorem info41 : (Yba.prog.info? 41).map (fun i => (i.zero, i.size, i.bytes)) = some (some (.agg #[.slice none 0 0, .slice none 0 0]), 2, 48) := by kernel_rfl
theorem size41 : (Yba.prog.info? 41).map (·.size) = some 2 := by kernel_rfl

theorem owns_block {w : World} {base : Nat} {e : TypeId} {size : Nat} {v : Value} {n k : Nat} {xs : List Value} (h : w.ownsRow base e size v n xs) (hk : v.ownBlock = some k) : (∃ cs, w.heap[k]? = some (.cells cs e (0, 0))) ∧ base ≤ k := by
  rcases h.2 with ⟨rfl, _⟩ | ⟨g, cap, cur, rfl, hb, hg, _⟩
  · cases hk
  · simp only [Value.ownBlock, Option.some.injEq] at hk
    subst hk
    exact ⟨⟨cur, hg⟩, hb⟩
theorem owns_shape {w : World} {base : Nat} {e : TypeId} {size : Nat} {v : Value} {n : Nat} {xs : List Value} (h : w.ownsRow base e size v n xs) : ∃ A C, v = .slice A n C := by
  rcases h.2 with ⟨rfl, rfl⟩ | ⟨g, cap, cur, rfl, _⟩
  · exact ⟨none, 0, rfl⟩
  · exact ⟨_, cap, rfl⟩
theorem row_new (w : World) (cs : List Value) (t : TypeId) : Row (w.alloc (.cells cs.toArray t)) w.heap.size cs t := heap_alloc_new w _
theorem row_alloc {w : World} {g : Nat} {cs : List Value} {t : TypeId} (h : Row w g cs t) (o : Obj) : Row (w.alloc o) g cs t := (Below.heap_alloc w o g h.lt).trans h
/-- A value of one span laid anew, behind one block more. -/
theorem new_val (w : World) (S : List (Int × Int)) (o : Obj) : Val (((w.alloc (.cells (flatS S).toArray 57)).alloc (.cells #[.iface 31 (.slice (some ⟨w.heap.size, 0, none⟩) S.length S.length)] 77)).alloc o) (.slice (some ⟨w.heap.size + 1, 0, none⟩) 1 1) S := by
  refine ⟨w.heap.size + 1, w.heap.size, rfl, row_alloc ?_ _, row_alloc (row_alloc (row_new w _ _) _) _⟩
  have := row_new (w.alloc (.cells (flatS S).toArray 57)) [.iface 31 (.slice (some ⟨w.heap.size, 0, none⟩) S.length S.length)] 77
  simpa using this

/-! ### A store of one joined row -/
def setAll : List Value → Nat → List Value → List Value
  | cur, _, [] => cur
  | cur, o, v :: r => setAll (cur.set o v) (o + 1) r
theorem setCells_block (g : Nat) (t : TypeId) : ∀ (vs : List Value) (o : Nat) (cur : List Value) (w : World), Row w g cur t → Row (w.setCells g o vs) g (setAll cur o vs) t ∧ w.grownBy (w.setCells g o vs) (some g)
  | [], _, _, w, h => ⟨h, World.grownBy.refl w _⟩
  | v :: r, o, cur, w, h => by
    have h1 := heap_setCell_same w g o cur.toArray t v h
    have e : cur.toArray.setIfInBounds o v = (cur.set o v).toArray := by simp
    rw [e] at h1
    obtain ⟨h2, h3⟩ := setCells_block g t r (o + 1) (cur.set o v) (w.setCell ⟨g, o, none⟩ v) h1
    refine ⟨h2, World.grownBy.trans ?_ h3⟩
    exact ⟨rfl, rfl, rfl, by simp, fun k _ hk => Below.heap_setCell w ⟨g, o, none⟩ v k (fun e => hk (by rw [e]))⟩
theorem Row.there {w : World} {g o n : Nat} {cs : List Value} {t : TypeId} (h : Row w g cs t) (hn : o + n ≤ cs.length) : w.there g o n := fun j hj => by
  refine ⟨?_, h.frozen⟩
  rw [h.cell (List.getElem?_eq_getElem (show o + j < cs.length by omega))]
  rfl
theorem wpList_put41 {ops : Array Oper} {rest : List Oper} {o : Oper} {a : Act} {w : World} {Q : Exit → Act → World → Prop} (hgd : o.guard = none) (x y : Operand) (ho : o.op = .store 41 x y)
    (g p n : Nat) (u v : Value) (hx : a.eval x = .pointer (some ⟨g, p * 2, none⟩)) (hy : a.eval y = .agg #[u, v]) (h1 : u.oneCell' = true) (h2 : v.oneCell' = true) (cs : List Value) (hr : Row w g cs 41) (hl : cs.length = n * 2) (hp : p < n)
    (h : ∀ w', Row w' g ((cs.set (p * 2) u).set (p * 2 + 1) v) 41 → w.grownBy w' (some g) → wpList Yba.prog ops Q rest (a.put o.dst undef) w') : wpList Yba.prog ops Q (o :: rest) a w :=
  wpList_store_mid hgd 41 x y ho g (p * 2) #[u, v] hx hy (hr.there (by simp; omega)) (by rw [size41]; rfl) (by simp [h1, h2])
    (h _ (setCells_block g 41 [u, v] (p * 2) cs w hr).1 (setCells_block g 41 [u, v] (p * 2) cs w hr).2)
theorem get_put {cs : List Value} {p i : Nat} {u v : Value} (hl : p * 2 + 1 < cs.length) : ((cs.set (p * 2) u).set (p * 2 + 1) v)[i * 2 + 1]? = if i = p then some v else cs[i * 2 + 1]? := by
  by_cases e : i = p
  · subst e
    rw [if_pos rfl, List.getElem?_set_self (by simp; omega)]
  · rw [if_neg e, List.getElem?_set_ne (by omega), List.getElem?_set_ne (by omega)]
theorem rows_next {w : World} {g i n : Nat} {cs : List Value} {u v : Value} {L : List (List Int)} (hr : Row w g ((cs.set (i * 2) u).set (i * 2 + 1) v) 41) (hl : cs.length = n * 2) (hi : i < n) (hN : Rests w v (restsOf (L.getD i [])))
    (hO : ∀ t, t < i → ∃ x, cs[t * 2 + 1]? = some x ∧ Rests w x (restsOf (L.getD t []))) : ((cs.set (i * 2) u).set (i * 2 + 1) v).length = n * 2 ∧ ∀ t, t < i + 1 → ∃ x, ((cs.set (i * 2) u).set (i * 2 + 1) v)[t * 2 + 1]? = some x ∧ Rests w x (restsOf (L.getD t [])) := by
  refine ⟨by rw [List.length_set, List.length_set]; exact hl, fun t ht => ?_⟩
  by_cases et : t = i
  · subst et
    exact ⟨v, by rw [get_put (by omega), if_pos rfl], hN⟩
  · obtain ⟨x, e1, e2⟩ := hO t (by omega)
    exact ⟨x, by rw [get_put (by omega), if_neg et]; exact e1, e2⟩
theorem restsOf_take (d : List Int) (h : d ≠ []) : restsOf d = d.map fun v => [spanOf v] := by unfold restsOf; rw [if_neg h]
theorem restsOf_nil : restsOf [] = [[]] := rfl

set_option maxRecDepth 100000 in
set_option maxHeartbeats 4000000 in
theorem build_any (L : List (List Int)) (a0 : Option Addr) (n0 c0 : Nat) (w : World) (h0 : Dat w a0 n0 L) (p0 : 1 ≤ n0) (q0 : n0 ≤ 256) (hli : ∀ i, i < n0 → (L.getD i []).length ≤ 256) :
    Calls Yba.prog 7 #[.slice a0 n0 c0] w fun e w' => ∃ r, e = .returned (.pointer (some ⟨r, 0, none⟩)) ∧ w.heap.size ≤ r ∧ Row w' r [.slice (some ⟨w.heap.size, 0, none⟩) n0 n0, .map none, .slice none 0 0, .slice none 0 0, .slice none 0 0] 45 ∧ Rows' w' w.heap.size n0 L ∧ Below w.heap.size w w' := by
  obtain ⟨i1, hi, hz0, hz1, hz2⟩ := info_parts info41
  obtain ⟨i2, ji, jz0, jz1, jz2⟩ := info_parts info38
  have hby : i1.bytes * n0 ≤ 281474976710656 := by rw [hz2]; omega
  obtain ⟨hL, hd⟩ := h0
  obtain ⟨b, off, rfl, hlt, hc⟩ := hd (by omega)
  have HL := hide hL
  have HC := hide hc
  have HLI := hide hli
  clear hL hd hc hli
  go_enter Yba.func7, Yba.ntmps7
  go_wp2_with (refine wpList_make_full _ rfl _ _ 29 rfl w.heap.size 41 i1 _ 2 Yba.underlying29 hi hz0 hz1 .i64 .i64 _ _ n0 rfl rfl rfl rfl hby (by unfold maxLen; omega) (Nat.le_refl _) ?_; intro w1 hown1 hgrow1)
  have hrow1 : ∃ cs, Row w1 w.heap.size cs 41 ∧ cs.length = n0 * 2 := by
    rcases hown1.2 with ⟨h', _⟩ | ⟨g', cap', cur, h', _, hg, _, _, hsz, _⟩
    · simp at h'
    · simp only [Value.slice.injEq, Option.some.injEq, Addr.mk.injEq, and_true, true_and] at h'
      obtain ⟨rfl, rfl⟩ := h'
      exact ⟨cur.toList, by unfold Row; rw [hg], by simpa using hsz⟩
  obtain ⟨cs1, hr1, hl1⟩ := hrow1
  have HL1 := hide hl1
  have hb1 := below_made (Below.refl w.heap.size w) hgrow1 (Nat.le_refl _)
  clear hown1 hgrow1 hl1
  go_loopw [14] (fun v wr => ∃ i : Nat, v = .int .i64 i ∧ i ≤ n0 ∧ ∃ cs, Row wr w.heap.size cs 41 ∧ Hid (cs.length = n0 * 2) ∧ Hid (∀ t, t < i → ∃ u, cs[t * 2 + 1]? = some u ∧ Rests wr u (restsOf (L.getD t []))) ∧ Below w.heap.size w wr) (fun v _ => n0 - (intOf v).toNat)
  case atStart => exact ⟨0, rfl, Nat.zero_le _, cs1, hr1, HL1, fun t ht => by omega, hb1⟩
  case round =>
    obtain ⟨i, rfl, hin, cs, hr, HCL, HR, hbel⟩ := hrel
    clear hr1 HL1 hb1
    by_cases hi0 : i < n0
    · obtain ⟨ai, ni, ci, e1, e2⟩ := HC.out i hi0
      have hln := HLI.out i hi0
      have HN := hide e2.1
      rw [e2.1] at hln
      have HA := hide e2.2.1
      have HW := hide e2.2.2
      have hck := (hbel.cell (p := ⟨b, off + i, none⟩) hlt).trans e1
      have hiz : (i : Int) < (n0 : Int) := by omega
      clear e1 e2
      rename World => wo
      go_wp2
      go_loopw [6, 21] (fun v vj wr => ∃ j : Nat, vj = .int .i64 j ∧ j ≤ ni ∧ ∃ us, wr.ownsRow wo.heap.size 38 1 v j us ∧ Hid (Vals wr us (((L.getD i []).take j).map fun v => [spanOf v])) ∧ Below wo.heap.size wo wr) (fun _ vj _ => ni - (intOf vj).toNat)
      case atStart => exact ⟨0, rfl, Nat.zero_le _, [], World.ownsRow_nil _ _ _ _, Vals.nil _, Below.refl _ _⟩
      case round =>
        obtain ⟨j, rfl, hj, us, hown, HV, hbo⟩ := hrel
        by_cases hjn : j < ni
        · obtain ⟨b3, off3, rfl, hlt3, hc3⟩ := HA.out (by omega)
          have hlt3' : b3 < wo.heap.size := Nat.lt_of_lt_of_le hlt3 hbel.size
          have hcj := (hbo.cell (p := ⟨b3, off3 + j, none⟩) hlt3').trans ((hbel.cell (p := ⟨b3, off3 + j, none⟩) hlt3).trans (hc3 j hjn))
          have hv := u16_bound (HW.out j)
          have hjd : j < (L.getD i []).length := by rw [HN.out]; exact hjn
          have HT : Hid (((L.getD i []).take (j + 1)).map (fun v => [spanOf v]) = ((L.getD i []).take j).map (fun v => [spanOf v]) ++ [[spanOf ((L.getD i []).getD j 0)]]) := by
            show ((L.getD i []).take (j + 1)).map (fun v => [spanOf v]) = ((L.getD i []).take j).map (fun v => [spanOf v]) ++ [[spanOf ((L.getD i []).getD j 0)]]
            rw [List.take_succ_eq_append_getElem hjd, List.map_append]
            rw [List.getD_eq_getElem?_getD (l := L.getD i []), List.getElem?_eq_getElem hjd]
            rfl
          clear hc3 hjd
          generalize (L.getD i []).getD j 0 = f at hcj hv HT
          go_wp2_with (first | (go_at_call 15; refine (span_any f _ hv.1 hv.2).mono ?_; rintro e w' ⟨rfl, rfl⟩) | (at_builtin; refine wpList_append_own _ rfl (.tmp 25) (.tmp 30) 39 rfl wo.heap.size 38 i2 _ 1 24 Yba.underlying39 ji jz0 jz1 jz2 rfl (by decide) _ j us rfl (((hown.alloc _).alloc _).alloc _) ⟨wr.heap.size + 2, 0, none⟩ 1 1 [.slice (some ⟨wr.heap.size + 1, 0, none⟩) 1 1] rfl rfl ?hn1 ?hn2 ?hn3 ?hn4 ?hn5 ?_))
          case hn1 =>
            intro t u hu
            match t, hu with
            | 0, hu =>
              simp at hu
              subst hu
              have := row_new ((wr.alloc (.cells #[.int .u64 (spanOf f).1, .int .u64 (spanOf f).2] 57)).alloc (.cells #[.iface 31 (.slice (some ⟨wr.heap.size, 0, none⟩) 1 1)] 77)) [.slice (some ⟨wr.heap.size + 1, 0, none⟩) 1 1] 38
              have hc := this.cell (j := 0) rfl
              simpa [Addr.add] using hc
          case hn2 =>
            intro u hu
            simp at hu
            subst hu
            rfl
          case hn3 => unfold maxLen; omega
          case hn4 => omega
          case hn5 => have := hbo.size; simp; omega
          intro v' wz hown' hgrow _
          have hs3 : Step 38 _ wz := Step.of_grown hgrow (fun k hk => (owns_block (((hown.alloc _).alloc _).alloc _) hk).1)
          have HV2 : Hid (Vals wz (us ++ [.slice (some ⟨wr.heap.size + 1, 0, none⟩) 1 1]) (((L.getD i []).take (j + 1)).map fun v => [spanOf v])) := by
            rw [HT.out]
            exact (((((HV.out.step (Step.alloc 38 _ _) (by decide) (by decide)).step (Step.alloc 38 _ _) (by decide) (by decide)).step (Step.alloc 38 _ _) (by decide) (by decide))).snoc (new_val wr [spanOf f] _)).step hs3 (by decide) (by decide)
          have hbo2 : Below wo.heap.size wo wz := (((hbo.alloc hbo.size _).alloc (by have := hbo.size; simp; omega) _).alloc (by have := hbo.size; simp; omega) _).grown hgrow (by have := hbo.size; simp; omega) (fun k hk => (owns_block hown hk).2)
          clear hs3 hgrow hown HV hbo hcj
          go_wp2
          go_roundw
          case rel => exact ⟨j + 1, by go_num, by omega, _, hown', HV2, hbo2⟩
          case measure => simp [intOf]; omega
        · obtain rfl : j = ni := by omega
          have hfull : (L.getD i []).take j = L.getD i [] := List.take_of_length_le (by rw [HN.out]; exact Nat.le_refl _)
          obtain ⟨A, C, hA⟩ := owns_shape hown
          subst hA
          have hbW0 : Below w.heap.size w wr := hbel.trans (hbo.mono hbel.size)
          have hsz : w.heap.size ≤ wr.heap.size := hbW0.size
          rcases Nat.eq_zero_or_pos j with hz | hpos
          · subst hz
            have hd0 : L.getD i [] = [] := List.eq_nil_of_length_eq_zero HN.out
            have hRN0 : Rests (((wr.alloc (.cells (flatS []).toArray 57)).alloc (.cells #[.iface 31 (.slice (some ⟨wr.heap.size, 0, none⟩) 0 0)] 77)).alloc (.cells #[.slice (some ⟨wr.heap.size + 1, 0, none⟩) 1 1] 38)) (.slice (some ⟨wr.heap.size + 2, 0, none⟩) 1 1) (restsOf (L.getD i [])) := by
              rw [hd0]
              refine ⟨wr.heap.size + 2, 1, [.slice (some ⟨wr.heap.size + 1, 0, none⟩) 1 1], [], rfl, ?_, rfl, by unfold maxLen; omega, (Vals.nil _).snoc (new_val wr [] _)⟩
              have := row_new ((wr.alloc (.cells (flatS []).toArray 57)).alloc (.cells #[.iface 31 (.slice (some ⟨wr.heap.size, 0, none⟩) 0 0)] 77)) [.slice (some ⟨wr.heap.size + 1, 0, none⟩) 1 1] 38
              simpa using this
            have hRN := hRN0
            have hrW : Row (((wr.alloc (.cells (flatS []).toArray 57)).alloc (.cells #[.iface 31 (.slice (some ⟨wr.heap.size, 0, none⟩) 0 0)] 77)).alloc (.cells #[.slice (some ⟨wr.heap.size + 1, 0, none⟩) 1 1] 38)) w.heap.size cs 41 := row_alloc (row_alloc (row_alloc (hr.below hbo) _) _) _
            have hboW : Below wo.heap.size wo (((wr.alloc (.cells (flatS []).toArray 57)).alloc (.cells #[.iface 31 (.slice (some ⟨wr.heap.size, 0, none⟩) 0 0)] 77)).alloc (.cells #[.slice (some ⟨wr.heap.size + 1, 0, none⟩) 1 1] 38)) := ((hbo.alloc hbo.size _).alloc (by have := hbo.size; simp; omega) _).alloc (by have := hbo.size; simp; omega) _
            have hbW : Below w.heap.size w (((wr.alloc (.cells (flatS []).toArray 57)).alloc (.cells #[.iface 31 (.slice (some ⟨wr.heap.size, 0, none⟩) 0 0)] 77)).alloc (.cells #[.slice (some ⟨wr.heap.size + 1, 0, none⟩) 1 1] 38)) := ((hbW0.alloc hsz _).alloc (by simp; omega) _).alloc (by simp; omega) _
            have hszW : w.heap.size ≤ (((wr.alloc (.cells (flatS []).toArray 57)).alloc (.cells #[.iface 31 (.slice (some ⟨wr.heap.size, 0, none⟩) 0 0)] 77)).alloc (.cells #[.slice (some ⟨wr.heap.size + 1, 0, none⟩) 1 1] 38)).heap.size := hbW.size
            clear hRN0 hown HV hd0 hfull
            simp only [flatS_nil] at hRN hrW hboW hbW hszW
            go_wp2_with (refine wpList_put41 rfl (.tmp 47) (.tmp 46) rfl w.heap.size i n0 _ _ rfl rfl rfl rfl cs (row_alloc (row_alloc hrW _) _) HCL.out hi0 ?_; intro w9 hr9 hg9)
            have hs9 : Step 41 _ w9 := Step.of_grown hg9 (fun k hk => by injection hk with hk; subst hk; exact ⟨_, row_alloc (row_alloc hrW _) _⟩)
            have hbx : Below w.heap.size w w9 := below_own (((hbW).alloc hszW _).alloc (by have := hszW; simp; omega) _) hg9 (Nat.le_refl _) (by have := hszW; simp; omega)
            have hRN9 := (((hRN.step (Step.alloc 41 _ _) (by decide) (by decide) (by decide)).step (Step.alloc 41 _ _) (by decide) (by decide) (by decide))).step hs9 (by decide) (by decide) (by decide)
            have hX := rows_next (L := L) hr9 HCL.out hi0 hRN9 (fun t ht => by
              obtain ⟨u, e1, e2⟩ := HR.out t ht
              exact ⟨u, e1, ((((e2.below hboW).step (Step.alloc 41 _ _) (by decide) (by decide) (by decide)).step (Step.alloc 41 _ _) (by decide) (by decide) (by decide))).step hs9 (by decide) (by decide) (by decide)⟩)
            have HCL2 := hide hX.1
            have HR2 := hide hX.2
            clear hX hRN9
            clear hs9 hg9 hRN hboW hbW hrW HR
            go_roundw
            case rel => exact ⟨i + 1, by go_num, by omega, _, hr9, HCL2, HR2, hbx⟩
            case measure => simp [intOf]; omega
          · have hne : ((j : Int) == 0) = false := by rw [beq_eq_false_iff_ne]; omega
            have hdne : L.getD i [] ≠ [] := fun e => by have := HN.out; rw [e] at this; simp at this; omega
            have hRN : Rests wr (.slice A j C) (restsOf (L.getD i [])) := by
              rw [restsOf_take _ hdne]
              refine Rests.of_owns hown hpos ?_
              have := HV.out
              rw [hfull] at this
              exact this
            have hrW := hr.below hbo
            have hboW := hbo
            have hbW := hbW0
            have hszW := hsz
            clear hown HV hfull hdne
            go_wp2_with (refine wpList_put41 rfl (.tmp 47) (.tmp 46) rfl w.heap.size i n0 _ _ rfl rfl rfl rfl cs (row_alloc (row_alloc hrW _) _) HCL.out hi0 ?_; intro w9 hr9 hg9)
            have hs9 : Step 41 _ w9 := Step.of_grown hg9 (fun k hk => by injection hk with hk; subst hk; exact ⟨_, row_alloc (row_alloc hrW _) _⟩)
            have hbx : Below w.heap.size w w9 := below_own (((hbW).alloc hszW _).alloc (by have := hszW; simp; omega) _) hg9 (Nat.le_refl _) (by have := hszW; simp; omega)
            have hRN9 := (((hRN.step (Step.alloc 41 _ _) (by decide) (by decide) (by decide)).step (Step.alloc 41 _ _) (by decide) (by decide) (by decide))).step hs9 (by decide) (by decide) (by decide)
            have hX := rows_next (L := L) hr9 HCL.out hi0 hRN9 (fun t ht => by
              obtain ⟨u, e1, e2⟩ := HR.out t ht
              exact ⟨u, e1, ((((e2.below hboW).step (Step.alloc 41 _ _) (by decide) (by decide) (by decide)).step (Step.alloc 41 _ _) (by decide) (by decide) (by decide))).step hs9 (by decide) (by decide) (by decide)⟩)
            have HCL2 := hide hX.1
            have HR2 := hide hX.2
            clear hX hRN9
            clear hs9 hg9 hRN hboW hbW hrW HR
            go_roundw
            case rel => exact ⟨i + 1, by go_num, by omega, _, hr9, HCL2, HR2, hbx⟩
            case measure => simp [intOf]; omega
    · obtain rfl : i = n0 := by omega
      go_wp2
      go_ret
      refine ⟨wr.heap.size, rfl, hbel.size, row_new wr _ 45, ⟨cs, row_alloc hr _, HCL.out, fun t ht => ?_⟩, hbel.alloc hbel.size _⟩
      obtain ⟨u, e1, e2⟩ := HR.out t ht
      exact ⟨u, e1, e2.step (Step.alloc 45 _ _) (by decide) (by decide) (by decide)⟩
end Go.Proofs.Ybulkbaje
