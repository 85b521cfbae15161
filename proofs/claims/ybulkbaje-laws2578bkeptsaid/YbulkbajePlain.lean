/- The plain laws on spans: no Go in sight. -/
import GoSem.Core.Value
namespace Go.Proofs.Ybulkbaje

def spanOf (v : Int) : Int × Int := (v % 64, v % 64 + v / 256 % 8)
def hasB (S : List (Int × Int)) (x : Int) : Bool := S.any fun s => decide (s.1 ≤ x ∧ x ≤ s.2)
def inB (L : List (List Int)) (I : List Nat) (x : Int) : Bool := I.any fun i => hasB ((L.getD i []).map spanOf) x

theorem hasB_nil (x : Int) : hasB [] x = false := rfl
theorem hasB_take (S : List (Int × Int)) (k : Nat) (x : Int) (h : k < S.length) : hasB (S.take (k + 1)) x = (hasB (S.take k) x || decide ((S.getD k (0, 0)).1 ≤ x ∧ x ≤ (S.getD k (0, 0)).2)) := by
  unfold hasB
  rw [List.take_succ_eq_append_getElem h, List.any_append]
  simp [h]
theorem hasB_hit {S : List (Int × Int)} {k : Nat} {x : Int} (h : k < S.length) (h1 : (S.getD k (0, 0)).1 ≤ x) (h2 : x ≤ (S.getD k (0, 0)).2) : hasB S x = true := by
  unfold hasB
  rw [List.any_eq_true]
  refine ⟨S[k], List.getElem_mem h, ?_⟩
  simp [h] at h1 h2
  simp [h1, h2]
theorem hasB_append (S T : List (Int × Int)) (x : Int) : hasB (S ++ T) x = (hasB S x || hasB T x) := by simp [hasB]
theorem inB_take (L : List (List Int)) (I : List Nat) (k : Nat) (x : Int) (h : k < I.length) : inB L (I.take (k + 1)) x = (inB L (I.take k) x || hasB ((L.getD (I.getD k 0) []).map spanOf) x) := by
  unfold inB
  rw [List.take_succ_eq_append_getElem h, List.any_append]
  simp [h]
theorem inB_hit {L : List (List Int)} {I : List Nat} {k : Nat} {x : Int} (h : k < I.length) (h1 : hasB ((L.getD (I.getD k 0) []).map spanOf) x = true) : inB L I x = true := by
  unfold inB
  rw [List.any_eq_true]
  refine ⟨I[k], List.getElem_mem h, ?_⟩
  simpa [h] using h1
/-- One span more, laid onto those that are united so far: into the last where it touches it. -/
def addS (O : List (Int × Int)) (s : Int × Int) : List (Int × Int) :=
  if 0 < O.length ∧ s.1 ≤ (O.getD (O.length - 1) (0, 0)).2 + 1 then O.set (O.length - 1) ((O.getD (O.length - 1) (0, 0)).1, max (O.getD (O.length - 1) (0, 0)).2 s.2) else O ++ [s]
theorem set_last {O : List (Int × Int)} (h : 0 < O.length) (y : Int × Int) : O.set (O.length - 1) y = O.take (O.length - 1) ++ [y] := by
  apply List.ext_getElem?
  intro i
  by_cases h1 : i = O.length - 1
  · subst h1
    rw [List.getElem?_set_self (by omega), List.getElem?_append_right (by simp), List.length_take, Nat.min_eq_left (by omega), Nat.sub_self]
    rfl
  · rw [List.getElem?_set_ne (fun e => h1 e.symm)]
    by_cases h2 : i < O.length - 1
    · rw [List.getElem?_append_left (by simp; omega), List.getElem?_take_of_lt h2]
    · rw [List.getElem?_eq_none (by omega), List.getElem?_eq_none (by simp; omega)]
theorem last_split {O : List (Int × Int)} (h : 0 < O.length) : O = O.take (O.length - 1) ++ [O.getD (O.length - 1) (0, 0)] := by
  have := set_last h (O.getD (O.length - 1) (0, 0))
  rw [← this]
  apply List.ext_getElem?
  intro i
  by_cases h1 : i = O.length - 1
  · subst h1
    rw [List.getElem?_set_self (by omega), List.getD_eq_getElem?_getD, List.getElem?_eq_getElem (by omega)]
    rfl
  · rw [List.getElem?_set_ne (fun e => h1 e.symm)]
/-- It adds just the new span's numbers, where the last begins no later. -/
theorem hasB_addS {O : List (Int × Int)} {s : Int × Int} {x : Int} (h : 0 < O.length → (O.getD (O.length - 1) (0, 0)).1 ≤ s.1) : hasB (addS O s) x = (hasB O x || decide (s.1 ≤ x ∧ x ≤ s.2)) := by
  unfold addS
  by_cases hc : 0 < O.length ∧ s.1 ≤ (O.getD (O.length - 1) (0, 0)).2 + 1
  · rw [if_pos hc, set_last hc.1, hasB_append]
    conv => rhs; rw [last_split hc.1, hasB_append]
    have hl := h hc.1
    obtain ⟨_, hc2⟩ := hc
    generalize O.getD (O.length - 1) (0, 0) = y at hl hc2 ⊢
    simp only [hasB, List.any_cons, List.any_nil, Bool.or_false, Bool.or_assoc]
    congr 1
    rw [← Bool.decide_or]
    congr 1
    apply propext
    constructor
    · rintro ⟨h1, h2⟩
      by_cases h3 : x ≤ y.2
      · exact .inl ⟨h1, h3⟩
      · right
        rcases Int.le_total y.2 s.2 with h4 | h4
        · rw [Int.max_eq_right h4] at h2; omega
        · rw [Int.max_eq_left h4] at h2; omega
    · rintro (⟨h1, h2⟩ | ⟨h1, h2⟩)
      · exact ⟨h1, Int.le_trans h2 (Int.le_max_left _ _)⟩
      · exact ⟨by omega, Int.le_trans h2 (Int.le_max_right _ _)⟩
  · rw [if_neg hc, hasB_append]
    simp [hasB]
theorem addS_last {O : List (Int × Int)} {s : Int × Int} (h : 0 < O.length → (O.getD (O.length - 1) (0, 0)).1 ≤ s.1) : 0 < (addS O s).length ∧ ((addS O s).getD ((addS O s).length - 1) (0, 0)).1 ≤ s.1 := by
  unfold addS
  by_cases hc : 0 < O.length ∧ s.1 ≤ (O.getD (O.length - 1) (0, 0)).2 + 1
  · rw [if_pos hc, List.length_set]
    refine ⟨hc.1, ?_⟩
    rw [List.getD_eq_getElem?_getD, List.getElem?_set_self (by omega)]
    exact h hc.1
  · rw [if_neg hc]
    refine ⟨by simp, ?_⟩
    rw [List.length_append, List.length_singleton, Nat.add_sub_cancel, List.getD_eq_getElem?_getD, List.getElem?_append_right (Nat.le_refl _)]
    simp
/-- The spans of T, united from the left. -/
def uniteS (T : List (Int × Int)) : List (Int × Int) := T.foldl addS []
theorem uniteS_take (T : List (Int × Int)) (k : Nat) (h : k < T.length) : uniteS (T.take (k + 1)) = addS (uniteS (T.take k)) (T.getD k (0, 0)) := by
  unfold uniteS
  rw [List.take_succ_eq_append_getElem h, List.foldl_append]
  simp [h]
theorem addS_length (O : List (Int × Int)) (s : Int × Int) : (addS O s).length ≤ O.length + 1 := by
  unfold addS
  split <;> simp
theorem uniteS_length (T : List (Int × Int)) : ∀ k, (uniteS (T.take k)).length ≤ k
  | 0 => by simp [uniteS]
  | k + 1 => by
    by_cases h : k < T.length
    · rw [uniteS_take T k h]
      exact Nat.le_trans (addS_length _ _) (Nat.succ_le_succ (uniteS_length T k))
    · rw [List.take_of_length_le (by omega), ← List.take_of_length_le (show T.length ≤ k by omega)]
      exact Nat.le_succ_of_le (uniteS_length T k)
/-- Sorted by where they begin. -/
def Asc (T : List (Int × Int)) : Prop := ∀ p q, p < q → q < T.length → (T.getD p (0, 0)).1 ≤ (T.getD q (0, 0)).1
theorem unite_inv {T : List (Int × Int)} (ha : Asc T) (x : Int) : ∀ k, k ≤ T.length → hasB (uniteS (T.take k)) x = hasB (T.take k) x ∧ (0 < (uniteS (T.take k)).length → ∀ q, k ≤ q → q < T.length → ((uniteS (T.take k)).getD ((uniteS (T.take k)).length - 1) (0, 0)).1 ≤ (T.getD q (0, 0)).1)
  | 0, _ => ⟨by simp [uniteS], fun h => by simp [uniteS] at h⟩
  | k + 1, h => by
    obtain ⟨h1, h2⟩ := unite_inv ha x k (by omega)
    have hl : 0 < (uniteS (T.take k)).length → ((uniteS (T.take k)).getD ((uniteS (T.take k)).length - 1) (0, 0)).1 ≤ (T.getD k (0, 0)).1 := fun hp => h2 hp k (Nat.le_refl _) (by omega)
    rw [uniteS_take T k (by omega)]
    refine ⟨?_, fun _ q hq1 hq2 => ?_⟩
    · rw [hasB_addS hl, h1, hasB_take T k x (by omega)]
    · exact Int.le_trans (addS_last hl).2 (ha k q (by omega) hq2)
theorem unite_has {T : List (Int × Int)} (ha : Asc T) (x : Int) : hasB (uniteS T) x = hasB T x := by
  have := (unite_inv ha x T.length (Nat.le_refl _)).1
  rwa [List.take_of_length_le (Nat.le_refl _)] at this
theorem hasB_perm {S T : List (Int × Int)} (h : S.Perm T) (x : Int) : hasB S x = hasB T x := by
  unfold hasB
  rw [Bool.eq_iff_iff, List.any_eq_true, List.any_eq_true]
  constructor
  · rintro ⟨s, hs, hx⟩; exact ⟨s, h.mem_iff.1 hs, hx⟩
  · rintro ⟨s, hs, hx⟩; exact ⟨s, h.mem_iff.2 hs, hx⟩
end Go.Proofs.Ybulkbaje
