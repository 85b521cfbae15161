/- The plain laws on merging two rows of pairs: no Go in sight. -/
import GoSem.Core.Value
namespace Go.Proofs.Ybulkbaiq

/-- The order of 'first'. -/
def leE (p q : Int × Int) : Bool := decide (p.1 ≤ q.1)

/-- What mergeEdits lays out. -/
def mrg (xs ys : List (Int × Int)) : List (Int × Int) := List.merge xs ys leE

theorem mrg_nil_left (ys : List (Int × Int)) : mrg [] ys = ys := by simp [mrg]
theorem mrg_nil_right (xs : List (Int × Int)) : mrg xs [] = xs := by simp [mrg]
theorem mrg_take {x y : Int × Int} (xs ys : List (Int × Int)) (h : x.1 ≤ y.1) : mrg (x :: xs) (y :: ys) = x :: mrg xs (y :: ys) := by
  simp [mrg, leE, h]
theorem mrg_drop {x y : Int × Int} (xs ys : List (Int × Int)) (h : ¬ x.1 ≤ y.1) : mrg (x :: xs) (y :: ys) = y :: mrg (x :: xs) ys := by
  simp [mrg, leE, h]
theorem mrg_length (xs ys : List (Int × Int)) : (mrg xs ys).length = xs.length + ys.length := by
  simp [mrg, List.length_merge]

/-- The tagged rows of the law Interleave. -/
def tagA : Nat → List Int → List (Int × Int)
  | _, [] => []
  | i, f :: fs => (f, (i : Int)) :: tagA (i + 1) fs
def tagB : Nat → List Int → List (Int × Int)
  | _, [] => []
  | i, f :: fs => (f, -1 - (i : Int)) :: tagB (i + 1) fs
theorem tagA_length : ∀ (i : Nat) (fs : List Int), (tagA i fs).length = fs.length
  | _, [] => rfl
  | i, f :: fs => by simp [tagA, tagA_length (i + 1) fs]
theorem tagB_length : ∀ (i : Nat) (fs : List Int), (tagB i fs).length = fs.length
  | _, [] => rfl
  | i, f :: fs => by simp [tagB, tagB_length (i + 1) fs]
theorem tagA_snoc : ∀ (i : Nat) (fs : List Int) (f : Int), tagA i (fs ++ [f]) = tagA i fs ++ [(f, ((i + fs.length : Nat) : Int))]
  | i, [], f => by simp [tagA]
  | i, g :: fs, f => by
    simp only [List.cons_append, tagA, tagA_snoc (i + 1) fs f, List.length_cons]
    congr 5
    omega
theorem tagB_snoc : ∀ (i : Nat) (fs : List Int) (f : Int), tagB i (fs ++ [f]) = tagB i fs ++ [(f, -1 - ((i + fs.length : Nat) : Int))]
  | i, [], f => by simp [tagB]
  | i, g :: fs, f => by
    simp only [List.cons_append, tagB, tagB_snoc (i + 1) fs f, List.length_cons]
    congr 6
    omega

/-- The head of what is left, if its tag is not negative, is the next of the first row. -/
theorem mrg_headA {i j : Nat} {fa fb : List Int} {e : Int × Int} {rest : List (Int × Int)} (h : mrg (tagA i fa) (tagB j fb) = e :: rest) (he : 0 ≤ e.2) :
    ∃ f fs, fa = f :: fs ∧ e = (f, (i : Int)) ∧ rest = mrg (tagA (i + 1) fs) (tagB j fb) := by
  cases fa with
  | nil =>
    rw [tagA, mrg_nil_left] at h
    cases fb with
    | nil => cases h
    | cons g gs =>
      simp only [tagB, List.cons.injEq] at h
      obtain ⟨rfl, _⟩ := h
      simp only at he
      omega
  | cons f fs =>
    cases fb with
    | nil =>
      rw [tagB, mrg_nil_right] at h
      simp only [tagA, List.cons.injEq] at h
      exact ⟨f, fs, rfl, h.1.symm, by rw [← h.2, tagB, mrg_nil_right]⟩
    | cons g gs =>
      by_cases hle : f ≤ g
      · rw [tagA, tagB, mrg_take _ _ hle] at h
        simp only [List.cons.injEq] at h
        exact ⟨f, fs, rfl, h.1.symm, h.2.symm⟩
      · rw [tagA, tagB, mrg_drop _ _ hle] at h
        simp only [List.cons.injEq] at h
        obtain ⟨rfl, _⟩ := h
        simp only at he
        omega

/-- And if it is negative, the next of the second. -/
theorem mrg_headB {i j : Nat} {fa fb : List Int} {e : Int × Int} {rest : List (Int × Int)} (h : mrg (tagA i fa) (tagB j fb) = e :: rest) (he : e.2 < 0) :
    ∃ f fs, fb = f :: fs ∧ e = (f, -1 - (j : Int)) ∧ rest = mrg (tagA i fa) (tagB (j + 1) fs) := by
  cases fa with
  | nil =>
    rw [tagA, mrg_nil_left] at h
    cases fb with
    | nil => cases h
    | cons g gs =>
      simp only [tagB, List.cons.injEq] at h
      exact ⟨g, gs, rfl, h.1.symm, by rw [← h.2, tagA, mrg_nil_left]⟩
  | cons f fs =>
    cases fb with
    | nil =>
      rw [tagB, mrg_nil_right] at h
      simp only [tagA, List.cons.injEq] at h
      obtain ⟨rfl, _⟩ := h
      simp only at he
      omega
    | cons g gs =>
      by_cases hle : f ≤ g
      · rw [tagA, tagB, mrg_take _ _ hle] at h
        simp only [List.cons.injEq] at h
        obtain ⟨rfl, _⟩ := h
        simp only at he
        omega
      · rw [tagA, tagB, mrg_drop _ _ hle] at h
        simp only [List.cons.injEq] at h
        exact ⟨g, gs, rfl, h.1.symm, h.2.symm⟩

/-- How far the two rows have been met again in the merged one. -/
def Scan (fa fb : List Int) (ia it : Nat) : Prop :=
  ia ≤ fa.length ∧ it ≤ fb.length ∧ (mrg (tagA 0 fa) (tagB 0 fb)).drop (ia + it) = mrg (tagA ia (fa.drop ia)) (tagB it (fb.drop it))
theorem scan_zero (fa fb : List Int) : Scan fa fb 0 0 := ⟨Nat.zero_le _, Nat.zero_le _, rfl⟩
theorem scan_total (fa fb : List Int) : (mrg (tagA 0 fa) (tagB 0 fb)).length = fa.length + fb.length := by rw [mrg_length, tagA_length, tagB_length]
theorem drop_split {fa fs : List Int} {f : Int} {i : Nat} (h : fa.drop i = f :: fs) : i < fa.length ∧ fa.getD i 0 = f ∧ fs = fa.drop (i + 1) := by
  have hlt : i < fa.length := by
    have := congrArg List.length h
    simp at this
    omega
  rw [List.drop_eq_getElem_cons hlt] at h
  simp only [List.cons.injEq] at h
  exact ⟨hlt, by simp [hlt, h.1], h.2.symm⟩
theorem scan_step {fa fb : List Int} {ia it : Nat} (h : Scan fa fb ia it) (hlt : ia + it < fa.length + fb.length) :
    ∃ e, (mrg (tagA 0 fa) (tagB 0 fb)).getD (ia + it) (0, 0) = e ∧ ((0 ≤ e.2 ∧ ia < fa.length ∧ e = (fa.getD ia 0, (ia : Int)) ∧ Scan fa fb (ia + 1) it) ∨
      (e.2 < 0 ∧ it < fb.length ∧ e = (fb.getD it 0, -1 - (it : Int)) ∧ Scan fa fb ia (it + 1))) := by
  obtain ⟨h1, h2, h3⟩ := h
  have hl : ia + it < (mrg (tagA 0 fa) (tagB 0 fb)).length := by rw [scan_total]; exact hlt
  refine ⟨_, rfl, ?_⟩
  have hd := List.drop_eq_getElem_cons hl
  have hg : (mrg (tagA 0 fa) (tagB 0 fb)).getD (ia + it) (0, 0) = (mrg (tagA 0 fa) (tagB 0 fb))[ia + it] := by simp [hl]
  rw [hg]
  generalize (mrg (tagA 0 fa) (tagB 0 fb))[ia + it] = e at hd hg ⊢
  rw [h3] at hd
  by_cases he : 0 ≤ e.2
  · obtain ⟨f, fs, q1, q2, q3⟩ := mrg_headA hd he
    obtain ⟨r1, r2, r3⟩ := drop_split q1
    refine .inl ⟨he, r1, by rw [r2]; exact q2, by omega, h2, ?_⟩
    rw [show ia + 1 + it = ia + it + 1 by omega, q3, r3]
  · obtain ⟨f, fs, q1, q2, q3⟩ := mrg_headB hd (by omega)
    obtain ⟨r1, r2, r3⟩ := drop_split q1
    refine .inr ⟨by omega, r1, by rw [r2]; exact q2, h1, by omega, ?_⟩
    rw [show ia + (it + 1) = ia + it + 1 by omega, q3, r3]
theorem scan_end {fa fb : List Int} {ia it : Nat} (h : Scan fa fb ia it) (hge : ¬ ia + it < fa.length + fb.length) : ia = fa.length ∧ it = fb.length := by
  have := h.1
  have := h.2.1
  omega

end Go.Proofs.Ybulkbaiq
