/- slices.SortFunc (45) at the named type spans, by unite's closure (46). -/
import Derived.Test.YbulkbajeMake
import Derived.Test.YbulkbajeShelf
namespace Go.Proofs.Ybulkbaje
open Go.RowKit
open Go.Sort (flatK get_flatK HoldsK putRowK)
set_option linter.unusedSimpArgs false
set_option linter.unusedVariables false

theorem nan52 (x : Int) (w : World) : Calls Yba.prog 52 #[.int .u64 x] w fun e w' => e = .returned (.bool false) ∧ w' = w := by
  go_enter Yba.func52, Yba.ntmps52
  go_wp2
  go_ret
  exact ⟨rfl, rfl⟩
def cmpS (x y : Int × Int) : Int := if x.1 < y.1 then -1 else if y.1 < x.1 then 1 else 0
theorem compare47 (x y : Int × Int) (w : World) : Calls Yba.prog 47 #[.int .u64 x.1, .int .u64 y.1] w fun e w' => e = .returned (.int .i64 (cmpS x y)) ∧ w' = w := by
  by_cases h1 : x.1 < y.1
  · have e : cmpS x y = -1 := by simp [cmpS, h1]
    rw [e]
    go_enter Yba.func47, Yba.ntmps47
    go_wp2_with (go_at_call 52; refine (nan52 _ _).mono ?_; rintro e w' ⟨rfl, rfl⟩)
    go_ret
    exact ⟨rfl, rfl⟩
  · by_cases h2 : y.1 < x.1
    · have e : cmpS x y = 1 := by simp [cmpS, h1, h2]
      rw [e]
      go_enter Yba.func47, Yba.ntmps47
      go_wp2_with (go_at_call 52; refine (nan52 _ _).mono ?_; rintro e w' ⟨rfl, rfl⟩)
      go_ret
      exact ⟨rfl, rfl⟩
    · have e : cmpS x y = 0 := by simp [cmpS, h1, h2]
      rw [e]
      go_enter Yba.func47, Yba.ntmps47
      go_wp2_with (go_at_call 52; refine (nan52 _ _).mono ?_; rintro e w' ⟨rfl, rfl⟩)
      go_ret
      exact ⟨rfl, rfl⟩
set_option maxHeartbeats 1000000 in
theorem closure46 (x y : Int × Int) (W : World) : Calls Yba.prog 46 #[.agg #[.int .u64 x.1, .int .u64 x.2], .agg #[.int .u64 y.1, .int .u64 y.2]] W fun e w' => e = .returned (.int .i64 (cmpS x y)) ∧ ∃ q os', w' = Go.Sort.grow (W.drewN q) os' := by
  have hcon := fun W' => compare47 x y W'
  generalize cmpS x y = r at hcon ⊢
  go_enter Yba.func46, Yba.ntmps46
  go_wp2_with (go_at_call 47; refine (hcon _).mono ?_; rintro e w' ⟨rfl, rfl⟩)
  go_ret
  exact ⟨rfl, 0, _, by rw [Go.Sort.alloc_eq_grow, Go.Sort.alloc_eq_grow, Go.Sort.grow_grow]; rfl⟩
theorem cmpLays46 (blk off size : Nat) (w : World) : CmpLays Yba.prog 46 #[] cellsS 2 cmpS blk off size w :=
  fun _ _ _ _ x y => closure46 x y _
theorem ltS (x y : Int × Int) : ltOf cmpS x y = decide (x.1 < y.1) := by
  unfold ltOf cmpS
  by_cases h1 : x.1 < y.1
  · simp [h1]
  · by_cases h2 : y.1 < x.1 <;> simp [h1, h2]
theorem swoS : Go.Sort.SWO (ltOf cmpS) where
  irrefl x := by rw [ltS]; simp
  trans x y z h1 h2 := by rw [ltS] at *; simp at *; omega
  ntrans x y z h1 h2 := by rw [ltS] at *; simp at *; omega

theorem flatK_eq (T : List (Int × Int)) : flatK cellsS 2 T.toArray = (flatS T).toArray := by
  apply Array.ext
  · simp [flatS_length]
  · intro t h1 h2
    have ht : t < T.length * 2 := by simpa using h1
    have hq : t / 2 < T.length := by omega
    have hg := flatS_get T (t / 2) hq
    have e := get_flatK cellsS 2 T.toArray t (by simpa using ht)
    rw [getElem!_pos _ t h1] at e
    rw [e]
    have hd : T.toArray[t / 2]! = T.getD (t / 2) (0, 0) := by simp [hq]
    rw [hd]
    rcases Nat.mod_two_eq_zero_or_one t with hm | hm
    · rw [hm]
      have h3 := hg.1
      rw [show t / 2 * 2 = t by omega] at h3
      have h4 : (flatS T).toArray[t]? = some (.int .u64 (T.getD (t / 2) (0, 0)).1) := by simpa using h3
      rw [Array.getElem?_eq_getElem h2] at h4
      injection h4 with h4
      rw [h4]
      rfl
    · rw [hm]
      have h3 := hg.2
      rw [show t / 2 * 2 + 1 = t by omega] at h3
      have h4 : (flatS T).toArray[t]? = some (.int .u64 (T.getD (t / 2) (0, 0)).2) := by simpa using h3
      rw [Array.getElem?_eq_getElem h2] at h4
      injection h4 with h4
      rw [h4]
      rfl
theorem holds_row {w : World} {g : Nat} {S : List (Int × Int)} {more : List Value} (h : Row w g (flatS S ++ more) 57) : HoldsK cellsS 2 w g 0 S.toArray := by
  unfold HoldsK
  rw [flatK_eq]
  intro j hj
  have hj' : j < (flatS S).length := by simpa using hj
  refine ⟨?_, h.frozen⟩
  rw [Nat.zero_add, h.cell (v := (flatS S)[j]) (by rw [List.getElem?_append_left hj', List.getElem?_eq_getElem hj'])]
  simp [hj']
theorem putCells_flat (F G more : List Value) (h : G.length = F.length) : Go.Sort.putCells id 0 G.toArray (F ++ more).toArray = (G ++ more).toArray := by
  apply Array.ext
  · simp [Go.Sort.putCells, h]
  · intro t h1 h2
    have ht : t < (F ++ more).length := by simpa [Go.Sort.putCells] using h1
    by_cases hin : t < G.length
    · simp [Go.Sort.putCells, hin]
    · simp only [Go.Sort.putCells, Array.getElem_mapIdx, List.size_toArray, Nat.zero_le, true_and, Nat.zero_add, hin, if_false, List.getElem_toArray]
      rw [List.getElem_append_right (by omega), List.getElem_append_right (by omega)]
      simp [h]
theorem swk_row {w w' : World} {g : Nat} {S T : List (Int × Int)} {more : List Value} (h : Row w g (flatS S ++ more) 57) (hl : T.length = S.length) (hw : SWK cellsS 2 w g 0 T.toArray w') : Row w' g (flatS T ++ more) 57 ∧ w.grownBy w' (some g) := by
  obtain ⟨n, os, rfl⟩ := hw
  have hlt := h.lt
  have hF : (flatS T).length = (flatS S).length := by rw [flatS_length, flatS_length, hl]
  have hp : (putRowK cellsS 2 (Go.Sort.ahead w n) g 0 T.toArray).heap = w.heap.modify g (Go.Sort.onCells (Go.Sort.putCells id 0 (flatS T).toArray)) := by
    unfold putRowK Go.Sort.putRow Go.Sort.mapBlock
    rw [flatK_eq]
    rfl
  have hs : (putRowK cellsS 2 (Go.Sort.ahead w n) g 0 T.toArray).heap.size = w.heap.size := by rw [hp, Array.size_modify]
  refine ⟨?_, rfl, rfl, rfl, ?_, fun k hk hne => ?_⟩
  · show ((putRowK cellsS 2 (Go.Sort.ahead w n) g 0 T.toArray).heap ++ os)[g]? = _
    rw [Array.getElem?_append_left (by rw [hs]; exact hlt), hp, Array.getElem?_modify, if_pos rfl, show w.heap[g]? = _ from h]
    simp only [Option.map_some, Go.Sort.onCells]
    rw [putCells_flat _ _ _ hF]
  · show w.heap.size ≤ ((putRowK cellsS 2 (Go.Sort.ahead w n) g 0 T.toArray).heap ++ os).size
    rw [Array.size_append, hs]
    omega
  · show ((putRowK cellsS 2 (Go.Sort.ahead w n) g 0 T.toArray).heap ++ os)[k]? = _
    rw [Array.getElem?_append_left (by rw [hs]; exact hk), hp, Array.getElem?_modify, if_neg (fun e => hne (by rw [e]))]

theorem isAgg57' (w : World) : (isAgg (Yba.laysPdq_ren.t 24)).run Yba.prog w = .ok true w := Yba.isAgg57 w
theorem sizeOf57' (w : World) : (Go.sizeOf (Yba.laysPdq_ren.t 24)).run Yba.prog w = .ok 2 w := Yba.sizeOf57 w

set_option maxHeartbeats 2000000 in
set_option maxRecDepth 100000 in
theorem sort_any (S : List (Int × Int)) (g cap : Nat) (more : List Value) (w : World) (hr : Row w g (flatS S ++ more) 57) (hn : S.length ≤ 100000) :
    Calls Yba.prog 45 #[.slice (some ⟨g, 0, none⟩) S.length cap, .func (.func 46) #[] #[]] w fun e w' => e = .returned (.tuple #[]) ∧ ∃ T : List (Int × Int), T.Perm S ∧ Asc T ∧ Row w' g (flatS T ++ more) 57 ∧ w.grownBy w' (some g) := by
  have eg : ∀ args w, (callFunc 46 args).run Yba.prog w = .ok (.enter 46 args) w := enters_of Yba.func46 (by kernel_rfl) rfl
  have hsz : S.toArray.size < 4611686018427387904 := by simp; omega
  have hlim : Lib.bitLen S.toArray.size < 4611686018427387904 := Nat.lt_of_le_of_lt (Lib.bitLen_le S.toArray.size 62 (by omega) (by simp; omega)) (by omega)
  have hp := AnyQ.pdqsortCmpFunc_all Yba.laysPdq 2 isAgg57' sizeOf57' cellsS cmpS 46 #[] swoS g 0 cap S.toArray w eg (cmpLays46 g 0 S.toArray.size w) ⟨fun _ => rfl, fun x v hv => by simp [cellsS] at hv; rcases hv with rfl | rfl <;> rfl, holds_row hr, hr.lt⟩ (S.toArray.size + 1) 0 S.toArray.size (Lib.bitLen S.toArray.size) S.toArray w (by omega) rfl (SWK.start (holds_row hr)) (Nat.zero_le _) (Nat.le_refl _) hsz hlim (Or.inl rfl)
  have hs := Go.Sort.pdq_sorts (ltOf cmpS) swoS S.toArray 0 S.toArray.size (Lib.bitLen S.toArray.size) true true (Nat.zero_le _) (Nat.le_refl _) (Or.inl rfl)
  generalize Go.Sort.pdq (ltOf cmpS) S.toArray 0 S.toArray.size (Lib.bitLen S.toArray.size) true true = D at hp hs
  have HP : Hid (∀ w', SWK cellsS 2 w g 0 D w' → ∃ T : List (Int × Int), T.Perm S ∧ Asc T ∧ Row w' g (flatS T ++ more) 57 ∧ w.grownBy w' (some g)) := by
    intro w' hw
    obtain ⟨⟨h1, _, h2⟩, h3⟩ := hs
    have hperm : D.toList.Perm S := by
      rw [← h1] at h2
      rw [show D.extract 0 D.size = D by simp, h1, show S.toArray.extract 0 S.toArray.size = S.toArray by simp] at h2
      simpa using h2
    refine ⟨D.toList, hperm, fun p q hpq hq => ?_, ?_⟩
    · have hq' : q < D.size := by simpa using hq
      have := h3 p q (Nat.zero_le _) hpq (by omega)
      rw [ltS, decide_eq_false_iff_not] at this
      have e1 : D[p]! = D.toList.getD p (0, 0) := by simp [show p < D.size by omega]
      have e2 : D[q]! = D.toList.getD q (0, 0) := by simp [hq']
      rw [e1, e2] at this
      omega
    · exact swk_row hr (by rw [hperm.length_eq]) (by simpa using hw)
  clear hs
  have hl : Calls Yba.prog 20 #[.int .u64 (S.length : Int)] w fun e w' => e = .returned (.int .i64 (Lib.bitLen S.toArray.size : Nat)) ∧ w' = w := by
    have h := Yba.bits_Len (S.length : Int) w (by omega) (by omega)
    rwa [Int.toNat_natCast, show S.length = S.toArray.size by simp] at h
  change Calls Yba.prog 51 #[.slice (some ⟨g, 0, none⟩) S.toArray.size cap, .int .i64 (0 : Nat), .int .i64 S.toArray.size, .int .i64 (Lib.bitLen S.toArray.size), .func (.func 46) #[] #[]] w _ at hp
  generalize Lib.bitLen S.toArray.size = lim at hp hl hlim
  simp only [List.size_toArray] at hp hl
  generalize S.length = n at hn hp hl
  have wr : IntKind.u64.wrap (n : Int) = n := by simp [IntKind.wrap, IntKind.bits, IntKind.signed]; omega
  clear hr hsz eg
  go_enter Yba.func45, Yba.ntmps45
  go_wp2_with (first | (go_at_call 20; refine hl.mono ?_; rintro e w' ⟨rfl, rfl⟩) | (go_at_call 51; refine hp.mono ?_; rintro e w' ⟨rfl, hw⟩))
  go_end0
  exact ⟨rfl, HP.out _ hw⟩
end Go.Proofs.Ybulkbaje
