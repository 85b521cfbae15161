/- The frame of (*rests).of: below the receiver all stays; of the rest whatever is no row of its three types. -/
import Derived.Test.YbulkbajeKey
namespace Go.Proofs.Ybulkbaje
open Go.RowKit
set_option linter.unusedSimpArgs false
set_option linter.unusedVariables false

def okO (o : Obj) : Prop := ∀ cs t, o = Obj.cells cs t (0, 0) → t ≠ 45 ∧ t ≠ 3 ∧ t ≠ 5
structure Keep (r : Nat) (w w' : World) : Prop where
  bel : Below r w w'
  blk : ∀ (k : Nat) (o : Obj), okO o → w.heap[k]? = some o → w'.heap[k]? = some o
theorem Keep.refl (r : Nat) (w : World) : Keep r w w := ⟨Below.refl _ _, fun _ _ _ h => h⟩
theorem Keep.trans {r : Nat} {a b c : World} (h : Keep r a b) (k : Keep r b c) : Keep r a c := ⟨h.bel.trans k.bel, fun i o ho hi => k.blk i o ho (h.blk i o ho hi)⟩
theorem Keep.of {r : Nat} {T : TypeId} {w w' : World} (hT : T = 45 ∨ T = 3 ∨ T = 5) (hs : StepO T w w') (hb : Below r w w') : Keep r w w' :=
  ⟨hb, fun k o ho hk => hs.block k o (fun cs e => by
    have h := ho cs T e
    rcases hT with rfl | rfl | rfl
    · exact h.1 rfl
    · exact h.2.1 rfl
    · exact h.2.2 rfl) hk⟩
/-- A block that was not there at the start is turned. -/
theorem Keep.fin {r R : Nat} {w w7 w9 : World} (h : Keep r w w7) (hg : w7.grownBy w9 (some R)) (hR : w.heap.size ≤ R) (hb : Below r w7 w9) : Keep r w w9 :=
  ⟨h.bel.trans hb, fun k o ho hk => by
    have h1 := h.blk k o ho hk
    have hlt := (Array.getElem?_eq_some_iff.1 hk).1
    exact (hg.block k (Array.getElem?_eq_some_iff.1 h1).1 (fun e => by injection e with e; omega)).trans h1⟩
theorem Keep.alloc {r : Nat} {w w' : World} (h : Keep r w w') (hr : r ≤ w'.heap.size) (o : Obj) : Keep r w (w'.alloc o) :=
  h.trans (Keep.of (T := 45) (.inl rfl) (StepO.alloc 45 w' o) ((Below.refl r w').alloc hr o))
theorem Keep.drew {r : Nat} {w w' : World} (h : Keep r w w') (n : Nat) : Keep r w (w'.drewN n) := ⟨below_quiet h.bel, fun k o ho hk => h.blk k o ho hk⟩
theorem Keep.size {r : Nat} {w w' : World} (h : Keep r w w') : w.heap.size ≤ w'.heap.size := h.bel.size
theorem okO_row {cs : List Value} {t : TypeId} (h : t ≠ 45 ∧ t ≠ 3 ∧ t ≠ 5) : okO (.cells cs.toArray t (0, 0)) := fun cs' t' e => by injection e with _ e2; subst e2; exact h
theorem Keep.row {r : Nat} {w w' : World} {k : Nat} {cs : List Value} {t : TypeId} (h : Keep r w w') (ht : t ≠ 45 ∧ t ≠ 3 ∧ t ≠ 5) (hr : Row w k cs t) : Row w' k cs t := h.blk k _ (okO_row ht) hr
theorem Val.keep {r : Nat} {w w' : World} {v : Value} {S : List (Int × Int)} (h : Val w v S) (hk : Keep r w w') : Val w' v S := by
  obtain ⟨a, b, e, r1, r2⟩ := h
  exact ⟨a, b, e, hk.row (by decide) r1, hk.row (by decide) r2⟩
theorem Vals.keep {r : Nat} {w w' : World} {us : List Value} {Ss : List (List (Int × Int))} (h : Vals w us Ss) (hk : Keep r w w') : Vals w' us Ss :=
  ⟨h.1, fun t ht => by obtain ⟨u, e, hv⟩ := h.2 t ht; exact ⟨u, e, hv.keep hk⟩⟩
theorem Rests.keep {r : Nat} {w w' : World} {v : Value} {Ss : List (List (Int × Int))} (h : Rests w v Ss) (hk : Keep r w w') : Rests w' v Ss := by
  obtain ⟨g, c, us, more, e, hr, l, m, hv⟩ := h
  exact ⟨g, c, us, more, e, hk.row (by decide) hr, l, m, hv.keep hk⟩
theorem Rows'.keep {r : Nat} {w w' : World} {g n : Nat} {L : List (List Int)} (h : Rows' w g n L) (hk : Keep r w w') : Rows' w' g n L := by
  obtain ⟨cs, hr, l, hv⟩ := h
  exact ⟨cs, hk.row (by decide) hr, l, fun i hi => by obtain ⟨v, e, hr⟩ := hv i hi; exact ⟨v, e, hr.keep hk⟩⟩
theorem ArgT.keep {r : Nat} {w w' : World} {a : Option Addr} {n : Nat} {S : List (Int × Int)} (h : ArgT w a n S) (hk : Keep r w w') : ArgT w' a n S := by
  refine ⟨h.1, fun hn => ?_⟩
  obtain ⟨g, cs, e, hr, hA⟩ := h.2 hn
  exact ⟨g, cs, e, hk.row (by decide) hr, hA⟩
theorem Map1.keep {r : Nat} {w w' : World} {M : Nat} {K : ByteArray} {ps : Value} (h : Map1 w M K ps) (hk : Keep r w w') : Map1 w' M K ps := hk.blk M _ (fun cs t e => by cases e) h
theorem stepO_grow (T : TypeId) (w : World) (os : Array Obj) : StepO T w (Go.Sort.grow w os) := by
  refine ⟨rfl, rfl, rfl, by simp, fun k o _ hk => ?_⟩
  show (w.heap ++ os)[k]? = some o
  rw [Array.getElem?_append_left (Array.getElem?_eq_some_iff.1 hk).1]
  exact hk
theorem below_grow (r : Nat) (w : World) (os : Array Obj) (hr : r ≤ w.heap.size) : Below r w (Go.Sort.grow w os) :=
  ⟨rfl, rfl, rfl, by simp, fun k hk => by
    show (w.heap ++ os)[k]? = w.heap[k]?
    rw [Array.getElem?_append_left (by omega)]⟩
/-- One field of the receiver turned. -/
theorem set45 {w : World} {r j : Nat} {cs : List Value} (h : Row w r cs 45) (v : Value) : Row (w.setCell ⟨r, j, none⟩ v) r (cs.set j v) 45 ∧ StepO 45 w (w.setCell ⟨r, j, none⟩ v) ∧ Below r w (w.setCell ⟨r, j, none⟩ v) := by
  have h1 := setCells_block r 45 [v] j cs w h
  refine ⟨h1.1, StepO.of_grown h1.2 (fun k hk => by injection hk with hk; subst hk; exact ⟨_, h⟩), ?_⟩
  exact below_own (Below.refl r w) h1.2 (Nat.le_refl _) (Nat.le_of_lt h.lt)
theorem set33 {w : World} {R j r : Nat} {cs : List Value} (h : Row w R cs 33) (hR : r ≤ R) (v : Value) : Row (w.setCell ⟨R, j, none⟩ v) R (cs.set j v) 33 ∧ StepO 33 w (w.setCell ⟨R, j, none⟩ v) ∧ Below r w (w.setCell ⟨R, j, none⟩ v) := by
  have h1 := setCells_block R 33 [v] j cs w h
  refine ⟨h1.1, StepO.of_grown h1.2 (fun k hk => by injection hk with hk; subst hk; exact ⟨_, h⟩), ?_⟩
  exact below_own (Below.refl r w) h1.2 hR (Nat.le_trans hR (Nat.le_of_lt h.lt))

/-! ### What the tails hold -/
def tailsOf (L : List (List Int)) (I : List Nat) : List (List (Int × Int)) := I.flatMap fun i => restsOf (L.getD i [])
theorem rests_flat (d : List Int) (x : Int) : hasB (restsOf d).flatten x = hasB (d.map spanOf) x := by
  unfold restsOf
  split
  · rename_i h; subst h; rfl
  · have : (d.map fun v => [spanOf v]).flatten = d.map spanOf := by
      induction d with
      | nil => rfl
      | cons a t ih => by_cases ht : t = [] <;> simp_all
    rw [this]
theorem tails_has (L : List (List Int)) (x : Int) : ∀ I : List Nat, hasB (tailsOf L I).flatten x = inB L I x
  | [] => rfl
  | i :: I => by
    have h1 : tailsOf L (i :: I) = restsOf (L.getD i []) ++ tailsOf L I := rfl
    rw [h1, List.flatten_append, hasB_append, rests_flat, tails_has L x I]
    rfl
theorem tails_take (L : List (List Int)) (I : List Nat) (k : Nat) (h : k < I.length) : tailsOf L (I.take (k + 1)) = tailsOf L (I.take k) ++ restsOf (L.getD (I.getD k 0) []) := by
  unfold tailsOf
  rw [List.take_succ_eq_append_getElem h, List.flatMap_append]
  simp [h]
theorem restsOf_le (d : List Int) (h : d.length ≤ 256) : (restsOf d).length ≤ 256 := by
  unfold restsOf
  split <;> simp <;> omega
theorem restsOf_flat_le (d : List Int) (h : d.length ≤ 256) : (restsOf d).flatten.length ≤ 256 := by
  unfold restsOf
  split
  · simp
  · have : ∀ d : List Int, (d.map fun v => [spanOf v]).flatten.length = d.length := by
      intro d
      induction d with
      | nil => rfl
      | cons a t ih => rw [List.map_cons, List.flatten_cons, List.length_append, ih]; simp; omega
    rw [this]; exact h
theorem tails_le (L : List (List Int)) (hL : ∀ i, (L.getD i []).length ≤ 256) : ∀ I : List Nat, (tailsOf L I).length ≤ I.length * 256 ∧ (tailsOf L I).flatten.length ≤ I.length * 256
  | [] => by simp [tailsOf]
  | i :: I => by
    have h1 : tailsOf L (i :: I) = restsOf (L.getD i []) ++ tailsOf L I := rfl
    have h2 := tails_le L hL I
    have h3 := restsOf_le _ (hL i)
    have h4 := restsOf_flat_le _ (hL i)
    rw [h1, List.flatten_append, List.length_append, List.length_append, List.length_cons]
    omega
theorem span_sm {v : Int} (h : 0 ≤ v ∧ v ≤ 65535) : 0 ≤ (spanOf v).1 ∧ (spanOf v).1 ≤ 1000 ∧ 0 ≤ (spanOf v).2 ∧ (spanOf v).2 ≤ 1000 := by simp only [spanOf]; omega
theorem tails_sm (L : List (List Int)) (hL : ∀ i, ∀ v ∈ L.getD i [], 0 ≤ v ∧ v ≤ 65535) (I : List Nat) : Sm (tailsOf L I).flatten := by
  intro s hs
  obtain ⟨l, hl, hs2⟩ := List.mem_flatten.1 hs
  obtain ⟨i, _, hl2⟩ := List.mem_flatMap.1 hl
  unfold restsOf at hl2
  split at hl2
  · simp at hl2; subst hl2; simp at hs2
  · obtain ⟨v, hv, rfl⟩ := List.mem_map.1 hl2
    simp at hs2
    subst hs2
    exact span_sm (hL i v hv)
end Go.Proofs.Ybulkbaje
