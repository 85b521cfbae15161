/- slices.Clone (11), slices.Reverse (12), slices.Equal (14) at places. -/
import Derived.Test.YbulkbajeHas
namespace Go.Proofs.Ybulkbaje
open Go.RowKit
set_option linter.unusedSimpArgs false
set_option linter.unusedVariables false

def zOf (I : List Nat) : List Int := I.map fun i : Nat => (i : Int)
theorem zOf_length (I : List Nat) : (zOf I).length = I.length := List.length_map _
theorem zOf_cells (I : List Nat) : (zOf I).map (Value.int .i64) = I.map encN := by
  unfold zOf
  rw [List.map_map]
  rfl
theorem zOf_getD (I : List Nat) (j : Nat) : (zOf I).getD j 0 = ((I.getD j 0 : Nat) : Int) := by
  unfold zOf
  by_cases hj : j < I.length
  · simp [hj]
  · simp [hj]
theorem zOf_reverse (I : List Nat) : (zOf I).reverse = zOf I.reverse := by unfold zOf; rw [List.map_reverse]

theorem argN_cell {w : World} {b n : Nat} {I : List Nat} (h : ArgN w (some ⟨b, 0, none⟩) n I) (t : Nat) (ht : t < n) : w.cell? ⟨b, 0 + t, none⟩ = some (.int .i64 ((I.getD t 0 : Nat) : Int)) := by
  obtain ⟨b', off', e, _, hc⟩ := h.2 (by omega)
  simp only [Option.some.injEq, Addr.mk.injEq, and_true] at e
  obtain ⟨rfl, rfl⟩ := e
  exact hc t ht
theorem argN_cells {w : World} {b n : Nat} {I : List Nat} (h : ArgN w (some ⟨b, 0, none⟩) n I) : ∀ j, j < (zOf I).length → w.cell? ⟨b, 0 + j, none⟩ = some (.int .i64 ((zOf I).getD j 0)) := fun j hj => by
  rw [zOf_getD]
  exact argN_cell h j (by rw [zOf_length, h.1] at hj; exact hj)

theorem clone11 (I : List Nat) (b n c : Nat) (w : World) (h : ArgN w (some ⟨b, 0, none⟩) n I) (p1 : 1 ≤ n) (q1 : n ≤ 256) :
    Calls Yba.prog 11 #[.slice (some ⟨b, 0, none⟩) n c] w fun e w' => ∃ g cap, e = .returned (.slice (some ⟨g, 0, none⟩) n cap) ∧ w.heap.size ≤ g ∧ w'.ownsRow w.heap.size 3 1 (.slice (some ⟨g, 0, none⟩) n cap) n (I.map encN) ∧ Below w.heap.size w w' := by
  refine (Yba.slices_Clone_int b 0 n c (zOf I) w (by rw [zOf_length, h.1]; exact Nat.le_refl _) (by omega) (argN_cells h)).mono ?_
  rintro e w' ⟨v', rfl, ho, hne, hb⟩
  rw [List.take_of_length_le (by rw [zOf_length, h.1]; exact Nat.le_refl _), zOf_cells] at ho
  rcases ho.2 with ⟨_, h0⟩ | ⟨g, cap, cur, e, hbg, _⟩
  · omega
  · subst e
    exact ⟨g, cap, rfl, hbg, ho, hb⟩

theorem setAll_length : ∀ (vs : List Value) (o : Nat) (cur : List Value), (setAll cur o vs).length = cur.length
  | [], _, _ => rfl
  | v :: r, o, cur => by show (setAll (cur.set o v) (o + 1) r).length = _; rw [setAll_length r]; simp
theorem setAll_old : ∀ (vs : List Value) (o : Nat) (cur : List Value) (t : Nat), t < o → (setAll cur o vs)[t]? = cur[t]?
  | [], _, _, _, _ => rfl
  | v :: r, o, cur, t, ht => by
    show (setAll (cur.set o v) (o + 1) r)[t]? = _
    rw [setAll_old r (o + 1) _ t (by omega), List.getElem?_set_ne (by omega)]
theorem setAll_new : ∀ (vs : List Value) (o : Nat) (cur : List Value) (t : Nat), o + vs.length ≤ cur.length → t < vs.length → (setAll cur o vs)[o + t]? = vs[t]?
  | [], _, _, t, _, ht => by simp at ht
  | v :: r, o, cur, t, hl, ht => by
    show (setAll (cur.set o v) (o + 1) r)[o + t]? = _
    simp only [List.length_cons] at hl ht
    cases t with
    | zero =>
      show (setAll (cur.set o v) (o + 1) r)[o]? = some v
      rw [setAll_old r (o + 1) _ o (by omega), List.getElem?_set_self (by omega)]
    | succ t =>
      rw [show o + (t + 1) = o + 1 + t by omega, setAll_new r (o + 1) _ t (by simp; omega) (by omega)]
      rfl

theorem rev12 (I : List Nat) (B g n cap : Nat) (w : World) (hI : I.length = n) (hn : n ≤ 256) (hown : w.ownsRow B 3 1 (.slice (some ⟨g, 0, none⟩) n cap) n (I.map encN)) :
    Calls Yba.prog 12 #[.slice (some ⟨g, 0, none⟩) n cap] w fun e w' => e = .returned (.tuple #[]) ∧ ArgN w' (some ⟨g, 0, none⟩) n I.reverse ∧ w.grownBy w' (some g) := by
  have hA := argN_of hown hI
  refine (Yba.slices_Reverse_int_cells g 0 n cap (zOf I) w (by rw [zOf_length, hI]; exact Nat.le_refl _) (by omega) (argN_cells hA) (fun j _ => by rw [Nat.zero_add]; exact hown.frozenAt j)).mono ?_
  rintro e w' ⟨rfl, q, rfl⟩
  rw [List.take_of_length_le (by rw [zOf_length, hI]; exact Nat.le_refl _), zOf_reverse, zOf_cells]
  rcases hown.2 with ⟨h', _⟩ | ⟨g', cap', cur, h', hBg, hg, hnc, hcm, hsz, htake⟩
  · simp at h'
  simp only [Value.slice.injEq, Option.some.injEq, Addr.mk.injEq, and_true, true_and] at h'
  obtain ⟨rfl, rfl⟩ := h'
  have hrow : Row (w.drewN q) g cur.toList 3 := by unfold Row; exact hg
  obtain ⟨h1, h2⟩ := setCells_block g 3 (I.reverse.map encN) 0 cur.toList (w.drewN q) hrow
  have hlen : n ≤ cur.toList.length := by
    rw [Array.length_toList]
    omega
  refine ⟨rfl, ⟨by simp [hI], fun _ => ⟨g, 0, rfl, h1.lt, fun t ht => ?_⟩⟩, ⟨h2.os, h2.tape, h2.output, h2.size, h2.block⟩⟩
  rw [h1.cell (setAll_new _ 0 _ t (by simp [hI]; simpa using hlen) (by simp [hI]; omega) |>.trans (List.getElem?_eq_getElem (by simp [hI]; omega)))]
  simp [encN, hI, ht]

theorem equal14 (J : List Nat) (b n c b2 d : Nat) (w : World) (h1 : ArgN w (some ⟨b, 0, none⟩) n J) (h2 : ArgN w (some ⟨b2, 0, none⟩) n J) (q1 : n ≤ 256) :
    Calls Yba.prog 14 #[.slice (some ⟨b, 0, none⟩) n c, .slice (some ⟨b2, 0, none⟩) n d] w fun e w' => e = .returned (.bool true) ∧ ∃ q, w' = w.drewN q := by
  refine (Yba.slices_Equal_int b 0 n c b2 0 n d (zOf J) (zOf J) w (by rw [zOf_length, h1.1]; exact Nat.le_refl _) (by rw [zOf_length, h1.1]; exact Nat.le_refl _) (by omega) (by omega) (argN_cells h1) (argN_cells h2)).mono ?_
  rintro e w' ⟨rfl, hq⟩
  exact ⟨by rw [beq_self_eq_true], hq⟩
theorem len_one {w : World} {M : Nat} {K : ByteArray} {ps : Value} (h : Map1 w M K ps) (ty : TypeId) : (Builtin.len_ #[42] ty #[.map (some M)]).run Yba.prog w = .ok (.int .i64 1) w := by
  simp [Builtin.len_, run_underlying Yba.underlying42, Go.MapKept.run_getObj_map h, goInt, Result.andThen]
end Go.Proofs.Ybulkbaje
