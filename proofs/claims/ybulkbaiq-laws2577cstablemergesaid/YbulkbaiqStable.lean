/- The plain laws on a stable sort by the first number: rearrangements that keep the order of equals, sorted stretches, the merge by rotation. No Go in sight. -/
import Derived.Test.YbulkbaiqPlain
namespace Go.Proofs.Ybulkbaiq

abbrev Row := List (Int × Int)
/-- The element at place p. -/
def el (D : Row) (p : Nat) : Int × Int := D.getD p (0, 0)
def ky (D : Row) (p : Nat) : Int := (el D p).1

/-- For every number: those elements that bear it, in their order, are the same. -/
def Feq (D D' : Row) : Prop := ∀ k : Int, D.filter (fun e => e.1 == k) = D'.filter (fun e => e.1 == k)
/-- The stretch from a to b is sorted by the first number. -/
def Srt (D : Row) (a b : Nat) : Prop := ∀ p q, a ≤ p → p < q → q < b → ky D p ≤ ky D q

theorem Feq.refl (D : Row) : Feq D D := fun _ => rfl
theorem Feq.trans {A B C : Row} (h : Feq A B) (k : Feq B C) : Feq A C := fun x => (h x).trans (k x)

theorem row_ext {D D' : Row} (hl : D.length = D'.length) (h : ∀ p, p < D.length → el D p = el D' p) : D = D' := by
  apply List.ext_getElem hl
  intro p h1 h2
  have := h p h1
  simpa [el, h1, h2] using this
theorem el_append (A B : Row) (p : Nat) : el (A ++ B) p = if p < A.length then el A p else el B (p - A.length) := by
  unfold el
  split
  · rename_i h
    rw [List.getD_eq_getElem?_getD, List.getElem?_append_left h, List.getD_eq_getElem?_getD]
  · rename_i h
    rw [List.getD_eq_getElem?_getD, List.getElem?_append_right (by omega), List.getD_eq_getElem?_getD]
theorem el_drop (D : Row) (a p : Nat) : el (D.drop a) p = el D (a + p) := by simp [el]
theorem el_take (D : Row) (n p : Nat) (h : p < n) : el (D.take n) p = el D p := by simp [el, h]
theorem el_set_eq {D : Row} {p : Nat} (x : Int × Int) (h : p < D.length) : el (D.set p x) p = x := by simp [el, h]
theorem el_set_ne {D : Row} {p q : Nat} (x : Int × Int) (h : p ≠ q) : el (D.set p x) q = el D q := by simp [el, h]

/-- D' is D with the stretch from a to b arranged anew, equals in their order. -/
structure Rearr (D D' : Row) (a b : Nat) : Prop where
  len : D'.length = D.length
  out : ∀ p, (p < a ∨ b ≤ p) → el D' p = el D p
  ins : ∀ p, a ≤ p → p < b → ∃ q, a ≤ q ∧ q < b ∧ el D' p = el D q
  fil : Feq D D'

theorem Rearr.refl (D : Row) (a b : Nat) : Rearr D D a b := ⟨rfl, fun _ _ => rfl, fun p h1 h2 => ⟨p, h1, h2, rfl⟩, Feq.refl D⟩
theorem Rearr.trans {A B C : Row} {a b : Nat} (h : Rearr A B a b) (k : Rearr B C a b) : Rearr A C a b where
  len := k.len.trans h.len
  out p hp := (k.out p hp).trans (h.out p hp)
  ins p h1 h2 := by
    obtain ⟨q, q1, q2, q3⟩ := k.ins p h1 h2
    obtain ⟨r, r1, r2, r3⟩ := h.ins q q1 q2
    exact ⟨r, r1, r2, q3.trans r3⟩
  fil := h.fil.trans k.fil
theorem Rearr.mono {A B : Row} {a b a' b' : Nat} (h : Rearr A B a b) (ha : a' ≤ a) (hb : b ≤ b') : Rearr A B a' b' where
  len := h.len
  out p hp := h.out p (by omega)
  ins p h1 h2 := by
    by_cases hp : a ≤ p ∧ p < b
    · obtain ⟨q, q1, q2, q3⟩ := h.ins p hp.1 hp.2
      exact ⟨q, by omega, by omega, q3⟩
    · exact ⟨p, h1, h2, h.out p (by omega)⟩
  fil := h.fil
theorem Rearr.srt_out {A B : Row} {a b c d : Nat} (h : Rearr A B a b) (hs : Srt A c d) (hd : d ≤ a ∨ b ≤ c) : Srt B c d := fun p q h1 h2 h3 => by
  unfold ky
  rw [h.out p (by omega), h.out q (by omega)]
  exact hs p q h1 h2 h3

/-- The neighbours at p and p + 1 changed places. -/
structure Swp (D D' : Row) (p : Nat) : Prop where
  len : D'.length = D.length
  lo : el D' p = el D (p + 1)
  hi : el D' (p + 1) = el D p
  out : ∀ q, q ≠ p → q ≠ p + 1 → el D' q = el D q

theorem swp_down {D : Row} {p : Nat} (h : p + 1 < D.length) : Swp D ((D.set (p + 1) (el D p)).set p (el D (p + 1))) p where
  len := by simp
  lo := el_set_eq _ (by simp; omega)
  hi := by rw [el_set_ne _ (by omega), el_set_eq _ h]
  out q h1 h2 := by rw [el_set_ne _ (fun e => h1 e.symm), el_set_ne _ (fun e => h2 e.symm)]
theorem swp_up {D : Row} {p : Nat} (h : p + 1 < D.length) : Swp D ((D.set p (el D (p + 1))).set (p + 1) (el D p)) p where
  len := by simp
  lo := by rw [el_set_ne _ (by omega), el_set_eq _ (by omega)]
  hi := el_set_eq _ (by simp; omega)
  out q h1 h2 := by rw [el_set_ne _ (fun e => h2 e.symm), el_set_ne _ (fun e => h1 e.symm)]

theorem Feq.swap {P Q : Row} {x y : Int × Int} (h : x.1 ≠ y.1) : Feq (P ++ x :: y :: Q) (P ++ y :: x :: Q) := by
  intro k
  simp only [List.filter_append, List.filter_cons]
  by_cases hx : x.1 = k
  · have hy : ¬ y.1 = k := fun e => h (by rw [hx, e])
    simp [hx, hy]
  · simp [hx]
theorem Swp.rearr {D D' : Row} {p a b : Nat} (h : Swp D D' p) (hp : p + 1 < D.length) (hne : ky D (p + 1) < ky D p) (ha : a ≤ p) (hb : p + 1 < b) : Rearr D D' a b where
  len := h.len
  out q hq := h.out q (by omega) (by omega)
  ins q h1 h2 := by
    by_cases e1 : q = p
    · subst e1; exact ⟨q + 1, by omega, hb, h.lo⟩
    · by_cases e2 : q = p + 1
      · subst e2; exact ⟨p, ha, by omega, h.hi⟩
      · exact ⟨q, h1, h2, h.out q e1 e2⟩
  fil := by
    have e1 : D = D.take p ++ el D p :: el D (p + 1) :: D.drop (p + 2) := by
      apply row_ext
      · simp; omega
      · intro q hq
        rw [el_append, List.length_take, Nat.min_eq_left (by omega)]
        by_cases h1 : q < p
        · rw [if_pos h1, el_take _ _ _ h1]
        · rw [if_neg h1]
          obtain ⟨r, rfl⟩ : ∃ r, q = p + r := ⟨q - p, by omega⟩
          rw [show p + r - p = r by omega]
          match r with
          | 0 => rfl
          | 1 => rfl
          | r + 2 =>
            show el D (p + (r + 2)) = el (D.drop (p + 2)) r
            rw [el_drop]
            congr 1
            omega
    have e2 : D' = D.take p ++ el D (p + 1) :: el D p :: D.drop (p + 2) := by
      apply row_ext
      · rw [h.len]; simp; omega
      · intro q hq
        rw [el_append, List.length_take, Nat.min_eq_left (by omega)]
        by_cases h1 : q < p
        · rw [if_pos h1, el_take _ _ _ h1, h.out q (by omega) (by omega)]
        · rw [if_neg h1]
          obtain ⟨r, rfl⟩ : ∃ r, q = p + r := ⟨q - p, by omega⟩
          rw [show p + r - p = r by omega]
          match r with
          | 0 => exact h.lo
          | 1 => exact h.hi
          | r + 2 =>
            show el D' (p + (r + 2)) = el (D.drop (p + 2)) r
            rw [el_drop, h.out _ (by omega) (by omega)]
            congr 1
            omega
    have hf : Feq (D.take p ++ el D p :: el D (p + 1) :: D.drop (p + 2)) (D.take p ++ el D (p + 1) :: el D p :: D.drop (p + 2)) := Feq.swap (fun e => by unfold ky at hne; omega)
    rw [← e1, ← e2] at hf
    exact hf

/-- Where the element at place p comes from when the stretches a..m and m..b have changed places. -/
def rotFrom (a m b p : Nat) : Nat := if p < a then p else if p < a + (b - m) then p + (m - a) else if p < b then p - (b - m) else p
structure Rot (D D' : Row) (a m b : Nat) : Prop where
  len : D'.length = D.length
  at_ : ∀ p, el D' p = el D (rotFrom a m b p)

theorem Feq.rot {P Q X Y : Row} (h : ∀ x ∈ X, ∀ y ∈ Y, y.1 < x.1) : Feq (P ++ (X ++ (Y ++ Q))) (P ++ (Y ++ (X ++ Q))) := by
  intro k
  simp only [List.filter_append]
  by_cases hx : X.filter (fun e => e.1 == k) = []
  · rw [hx]; simp
  · have hy : Y.filter (fun e => e.1 == k) = [] := by
      rw [List.filter_eq_nil_iff]
      intro y hy hk
      apply hx
      rw [List.filter_eq_nil_iff]
      intro x hxm hxk
      have := h x hxm y hy
      simp at hk hxk
      omega
    rw [hy]; simp
theorem mem_seg {D : Row} {a n : Nat} {x : Int × Int} (hx : x ∈ (D.drop a).take n) : ∃ p, a ≤ p ∧ p < a + n ∧ p < D.length ∧ x = el D p := by
  obtain ⟨i, hi, rfl⟩ := List.getElem_of_mem hx
  simp at hi
  refine ⟨a + i, by omega, by omega, by omega, ?_⟩
  simp [el, show a + i < D.length by omega]
theorem Rot.rearr {D D' : Row} {a m b : Nat} (h : Rot D D' a m b) (ham : a ≤ m) (hmb : m ≤ b) (hb : b ≤ D.length) (hk : ∀ p q, a ≤ p → p < m → m ≤ q → q < b → ky D q < ky D p) : Rearr D D' a b where
  len := h.len
  out p hp := by
    rw [h.at_]
    congr 1
    unfold rotFrom
    repeat' split
    all_goals omega
  ins p h1 h2 := by
    refine ⟨rotFrom a m b p, ?_, ?_, h.at_ p⟩ <;> (unfold rotFrom; repeat' split) <;> omega
  fil := by
    have e1 : D = D.take a ++ ((D.drop a).take (m - a) ++ ((D.drop m).take (b - m) ++ D.drop b)) := by
      apply row_ext
      · simp; omega
      · intro q hq
        simp only [el_append, List.length_take, List.length_drop]
        repeat' split
        · rw [el_take _ _ _ (by omega)]
        · rw [el_take _ _ _ (by omega), el_drop]; congr 1; omega
        · rw [el_take _ _ _ (by omega), el_drop]; congr 1; omega
        · rw [el_drop]; congr 1; omega
    have e2 : D' = D.take a ++ ((D.drop m).take (b - m) ++ ((D.drop a).take (m - a) ++ D.drop b)) := by
      apply row_ext
      · rw [h.len]; simp; omega
      · intro q hq
        rw [h.at_]
        simp only [el_append, List.length_take, List.length_drop]
        repeat' split
        · rw [el_take _ _ _ (by omega)]; congr 1; unfold rotFrom; repeat' split
          all_goals omega
        · rw [el_take _ _ _ (by omega), el_drop]; congr 1; unfold rotFrom; repeat' split
          all_goals omega
        · rw [el_take _ _ _ (by omega), el_drop]; congr 1; unfold rotFrom; repeat' split
          all_goals omega
        · rw [el_drop]; congr 1; unfold rotFrom; repeat' split
          all_goals omega
    have hf : Feq (D.take a ++ ((D.drop a).take (m - a) ++ ((D.drop m).take (b - m) ++ D.drop b))) (D.take a ++ ((D.drop m).take (b - m) ++ ((D.drop a).take (m - a) ++ D.drop b))) := Feq.rot (fun x hx y hy => by
      obtain ⟨p, p1, p2, _, rfl⟩ := mem_seg hx
      obtain ⟨q, q1, q2, _, rfl⟩ := mem_seg hy
      exact hk p q (by omega) (by omega) (by omega) (by omega))
    rw [← e1, ← e2] at hf
    exact hf

/-! ### Insertion -/
/-- Sorted from a to i, but for the element that stands at j and is on its way down. -/
def Hole (D : Row) (a i j : Nat) : Prop := ∀ p q, a ≤ p → p < q → q ≤ i → q ≠ j → ky D p ≤ ky D q
theorem hole_start {D : Row} {a i : Nat} (h : Srt D a i) : Hole D a i i := fun p q h1 h2 h3 h4 => h p q h1 h2 (by omega)
theorem hole_step {D D' : Row} {a i j : Nat} (h : Hole D a i (j + 1)) (ha : a ≤ j) (hj : j + 1 ≤ i) (hk : ky D (j + 1) < ky D j) (hs : Swp D D' j) : Hole D' a i j := by
  have k0 : ky D' j = ky D (j + 1) := congrArg Prod.fst hs.lo
  have k1 : ky D' (j + 1) = ky D j := congrArg Prod.fst hs.hi
  have ko : ∀ q, q ≠ j → q ≠ j + 1 → ky D' q = ky D q := fun q h1 h2 => congrArg Prod.fst (hs.out q h1 h2)
  intro p q h1 h2 h3 h4
  by_cases e1 : q = j + 1
  · subst e1
    rw [k1]
    by_cases e2 : p = j
    · subst e2; rw [k0]; omega
    · rw [ko p e2 (by omega)]
      exact h p j h1 (by omega) (by omega) (by omega)
  · rw [ko q h4 e1]
    by_cases e2 : p = j
    · subst e2; rw [k0]; exact h (p + 1) q (by omega) (by omega) h3 e1
    · by_cases e3 : p = j + 1
      · subst e3; rw [k1]; exact h j q ha (by omega) h3 e1
      · rw [ko p e2 e3]; exact h p q h1 h2 h3 e1
theorem hole_end {D : Row} {a i j : Nat} (h : Hole D a i j) (hj : j ≤ i) (hk : j ≤ a ∨ ky D (j - 1) ≤ ky D j) : Srt D a (i + 1) := by
  intro p q h1 h2 h3
  by_cases e : q = j
  · subst e
    rcases hk with hk | hk
    · omega
    · by_cases e2 : p = q - 1
      · subst e2; exact hk
      · exact Int.le_trans (h p (q - 1) h1 (by omega) (by omega) (by omega)) hk
  · exact h p q h1 h2 (by omega) e

/-- The element of a has gone up to k, the others a step down. -/
def Up (D0 D : Row) (a k : Nat) : Prop := ∀ p, el D p = if a ≤ p ∧ p < k then el D0 (p + 1) else if p = k then el D0 a else el D0 p
theorem up_start (D : Row) (a : Nat) : Up D D a a := fun p => by
  rw [if_neg (by omega)]
  split
  · rename_i h; rw [h]
  · rfl
theorem up_step {D0 D D' : Row} {a k : Nat} (h : Up D0 D a k) (ha : a ≤ k) (hs : Swp D D' k) : Up D0 D' a (k + 1) := by
  intro p
  by_cases e1 : p = k
  · subst e1
    rw [hs.lo, h (p + 1), if_neg (by omega), if_neg (by omega), if_pos (by omega)]
  · by_cases e2 : p = k + 1
    · subst e2
      rw [hs.hi, h k, if_neg (by omega), if_pos rfl, if_neg (by omega), if_pos rfl]
    · rw [hs.out p e1 e2, h p]
      by_cases e3 : a ≤ p ∧ p < k
      · rw [if_pos e3, if_pos (by omega)]
      · rw [if_neg e3, if_neg e1, if_neg (by omega), if_neg e2]
theorem up_key {D0 D : Row} {a k : Nat} (h : Up D0 D a k) : ky D k = ky D0 a ∧ ky D (k + 1) = ky D0 (k + 1) := by
  unfold ky
  rw [h k, h (k + 1), if_neg (by omega), if_pos rfl, if_neg (by omega), if_neg (by omega)]
  exact ⟨rfl, rfl⟩
theorem up_end {D0 D : Row} {a b i : Nat} (h : Up D0 D a (i - 1)) (hi : a < i) (hib : i ≤ b) (hs : Srt D0 (a + 1) b) (hlo : ∀ p, a < p → p < i → ky D0 p < ky D0 a) (hhi : ∀ p, i ≤ p → p < b → ky D0 a ≤ ky D0 p) : Srt D a b := by
  have hk : ∀ p, ky D p = if a ≤ p ∧ p < i - 1 then ky D0 (p + 1) else if p = i - 1 then ky D0 a else ky D0 p := by
    intro p
    unfold ky
    rw [h p]
    repeat' split
    all_goals rfl
  intro p q h1 h2 h3
  rw [hk p, hk q]
  by_cases p1 : p < i - 1
  · rw [if_pos ⟨h1, p1⟩]
    by_cases q1 : q < i - 1
    · rw [if_pos ⟨by omega, q1⟩]; exact hs _ _ (by omega) (by omega) (by omega)
    · rw [if_neg (by omega)]
      by_cases q2 : q = i - 1
      · rw [if_pos q2]; exact Int.le_of_lt (hlo _ (by omega) (by omega))
      · rw [if_neg q2]; exact hs _ _ (by omega) (by omega) (by omega)
  · rw [if_neg (by omega), if_neg (by omega : ¬ (a ≤ q ∧ q < i - 1)), if_neg (by omega : ¬ q = i - 1)]
    by_cases p2 : p = i - 1
    · rw [if_pos p2]; exact hhi _ (by omega) h3
    · rw [if_neg p2]; exact hs _ _ (by omega) h2 h3

/-- The element of m has gone down to k, the others a step up. -/
def Dn (D0 D : Row) (m k : Nat) : Prop := ∀ p, el D p = if k < p ∧ p ≤ m then el D0 (p - 1) else if p = k then el D0 m else el D0 p
theorem dn_start (D : Row) (m : Nat) : Dn D D m m := fun p => by
  rw [if_neg (by omega)]
  split
  · rename_i h; rw [h]
  · rfl
theorem dn_step {D0 D D' : Row} {m k : Nat} (h : Dn D0 D m (k + 1)) (hm : k + 1 ≤ m) (hs : Swp D D' k) : Dn D0 D' m k := by
  intro p
  by_cases e1 : p = k
  · subst e1
    rw [hs.lo, h (p + 1), if_neg (by omega), if_pos rfl, if_neg (by omega), if_pos rfl]
  · by_cases e2 : p = k + 1
    · subst e2
      rw [hs.hi, h k, if_neg (by omega), if_neg (by omega), if_pos (by omega)]
      rfl
    · rw [hs.out p e1 e2, h p]
      by_cases e3 : k + 1 < p ∧ p ≤ m
      · rw [if_pos e3, if_pos (by omega)]
      · rw [if_neg e3, if_neg e2, if_neg (by omega), if_neg e1]
theorem dn_key {D0 D : Row} {m k : Nat} (h : Dn D0 D m (k + 1)) : ky D (k + 1) = ky D0 m ∧ ky D k = ky D0 k := by
  unfold ky
  rw [h k, h (k + 1), if_neg (by omega), if_pos rfl, if_neg (by omega), if_neg (by omega)]
  exact ⟨rfl, rfl⟩
theorem dn_end {D0 D : Row} {a m i : Nat} (h : Dn D0 D m i) (hi : a ≤ i) (him : i ≤ m) (hs : Srt D0 a m) (hlo : ∀ p, a ≤ p → p < i → ky D0 p ≤ ky D0 m) (hhi : ∀ p, i ≤ p → p < m → ky D0 m < ky D0 p) : Srt D a (m + 1) := by
  have hk : ∀ p, ky D p = if i < p ∧ p ≤ m then ky D0 (p - 1) else if p = i then ky D0 m else ky D0 p := by
    intro p
    unfold ky
    rw [h p]
    repeat' split
    all_goals rfl
  intro p q h1 h2 h3
  rw [hk p, hk q]
  by_cases p1 : p < i
  · rw [if_neg (by omega), if_neg (by omega : ¬ p = i)]
    by_cases q1 : i < q
    · rw [if_pos ⟨q1, by omega⟩]
      by_cases e : p = q - 1
      · rw [e]; exact Int.le_refl _
      · exact hs _ _ h1 (by omega) (by omega)
    · rw [if_neg (by omega)]
      by_cases q2 : q = i
      · rw [if_pos q2]; exact hlo _ h1 p1
      · rw [if_neg q2]; exact hs _ _ h1 h2 (by omega)
  · rw [if_pos (by omega : i < q ∧ q ≤ m)]
    by_cases p2 : p = i
    · rw [if_neg (by omega), if_pos p2]; exact Int.le_of_lt (hhi _ (by omega) (by omega))
    · rw [if_pos (by omega)]; exact hs _ _ (by omega) (by omega) (by omega)

/-! ### The merge by rotation -/
/-- What the search for the cut leaves: 'start' in the left stretch, 'fin' in the right one. -/
structure Cut (D : Row) (a m b mid start fin : Nat) : Prop where
  h1 : a ≤ start
  h2 : start ≤ m
  h3 : m ≤ fin
  h4 : fin ≤ b
  sum : start + fin = mid + m
  cross : start < m → m < fin → ky D (fin - 1) < ky D start
  apart : a < start → fin < b → ky D (start - 1) ≤ ky D fin
/-- The four stretches behind the rotation. -/
theorem cut_rot {D D1 : Row} {a m b mid start fin : Nat} (c : Cut D a m b mid start fin) (hl : Srt D a m) (hr : Srt D m b) (hrot : Rot D D1 start m fin) :
    Srt D1 a start ∧ Srt D1 start mid ∧ Srt D1 mid fin ∧ Srt D1 fin b ∧ ∀ p q, a ≤ p → p < mid → mid ≤ q → q < b → ky D1 p ≤ ky D1 q := by
  obtain ⟨h1, h2, h3, h4, hsum, hcr, hap⟩ := c
  have k1 : ∀ p, p < start → ky D1 p = ky D p := fun p hp => congrArg Prod.fst ((hrot.at_ p).trans (by rw [rotFrom, if_pos hp]))
  have k2 : ∀ p, start ≤ p → p < mid → ky D1 p = ky D (p + (m - start)) := fun p hp hq => congrArg Prod.fst ((hrot.at_ p).trans (by rw [rotFrom, if_neg (by omega), if_pos (by omega)]))
  have k3 : ∀ p, mid ≤ p → p < fin → ky D1 p = ky D (p - (fin - m)) := fun p hp hq => congrArg Prod.fst ((hrot.at_ p).trans (by rw [rotFrom, if_neg (by omega), if_neg (by omega), if_pos hq]))
  have k4 : ∀ p, fin ≤ p → ky D1 p = ky D p := fun p hp => congrArg Prod.fst ((hrot.at_ p).trans (by rw [rotFrom, if_neg (by omega), if_neg (by omega), if_neg (by omega)]))
  have le : ∀ p q, a ≤ p → p ≤ q → q < m → ky D p ≤ ky D q := fun p q e1 e2 e3 => by
    by_cases e : p = q
    · rw [e]; exact Int.le_refl _
    · exact hl p q e1 (by omega) e3
  have re : ∀ p q, m ≤ p → p ≤ q → q < b → ky D p ≤ ky D q := fun p q e1 e2 e3 => by
    by_cases e : p = q
    · rw [e]; exact Int.le_refl _
    · exact hr p q e1 (by omega) e3
  refine ⟨fun p q e1 e2 e3 => ?_, fun p q e1 e2 e3 => ?_, fun p q e1 e2 e3 => ?_, fun p q e1 e2 e3 => ?_, fun p q e1 e2 e3 e4 => ?_⟩
  · rw [k1 p (by omega), k1 q e3]; exact hl p q e1 e2 (by omega)
  · rw [k2 p e1 (by omega), k2 q (by omega) e3]; exact hr _ _ (by omega) (by omega) (by omega)
  · rw [k3 p e1 (by omega), k3 q (by omega) e3]; exact hl _ _ (by omega) (by omega) (by omega)
  · rw [k4 p e1, k4 q (by omega)]; exact hr p q (by omega) e2 e3
  · by_cases p1 : p < start
    · rw [k1 p p1]
      by_cases q1 : q < fin
      · rw [k3 q e3 q1]; exact le _ _ e1 (by omega) (by omega)
      · rw [k4 q (by omega)]
        exact Int.le_trans (le p (start - 1) e1 (by omega) (by omega)) (Int.le_trans (hap (by omega) (by omega)) (re fin q (by omega) (by omega) e4))
    · rw [k2 p (by omega) e2]
      by_cases q1 : q < fin
      · rw [k3 q e3 q1]
        exact Int.le_trans (re _ (fin - 1) (by omega) (by omega) (by omega)) (Int.le_trans (Int.le_of_lt (hcr (by omega) (by omega))) (le start _ h1 (by omega) (by omega)))
      · rw [k4 q (by omega)]; exact re _ _ (by omega) (by omega) e4
/-- Two sorted stretches, the first below the second, make one. -/
theorem srt_join {D : Row} {a mid b : Nat} (h1 : Srt D a mid) (h2 : Srt D mid b) (hc : ∀ p q, a ≤ p → p < mid → mid ≤ q → q < b → ky D p ≤ ky D q) : Srt D a b := fun p q e1 e2 e3 => by
  by_cases hq : q < mid
  · exact h1 p q e1 e2 hq
  · by_cases hp : p < mid
    · exact hc p q e1 hp (by omega) e3
    · exact h2 p q (by omega) e2 e3
theorem cross_left {D D' : Row} {a mid b : Nat} (h : Rearr D D' a mid) (hc : ∀ p q, a ≤ p → p < mid → mid ≤ q → q < b → ky D p ≤ ky D q) : ∀ p q, a ≤ p → p < mid → mid ≤ q → q < b → ky D' p ≤ ky D' q := fun p q e1 e2 e3 e4 => by
  obtain ⟨r, r1, r2, r3⟩ := h.ins p e1 e2
  unfold ky
  rw [r3, h.out q (by omega)]
  exact hc r q r1 r2 e3 e4
theorem cross_right {D D' : Row} {a mid b : Nat} (h : Rearr D D' mid b) (hc : ∀ p q, a ≤ p → p < mid → mid ≤ q → q < b → ky D p ≤ ky D q) : ∀ p q, a ≤ p → p < mid → mid ≤ q → q < b → ky D' p ≤ ky D' q := fun p q e1 e2 e3 e4 => by
  obtain ⟨r, r1, r2, r3⟩ := h.ins q e3 e4
  unfold ky
  rw [r3, h.out p (by omega)]
  exact hc p r e1 e2 r1 r2

/-! ### Blocks -/
/-- Sorted within each block of bs elements. -/
def Blocks (D : Row) (bs n : Nat) : Prop := ∀ p q, p < q → q < n → p / bs = q / bs → ky D p ≤ ky D q
theorem blocks_srt {D : Row} {bs n : Nat} (h : Blocks D bs n) (hb : n ≤ bs) : Srt D 0 n := fun p q _ h2 h3 => h p q h2 h3 (by rw [Nat.div_eq_of_lt (by omega), Nat.div_eq_of_lt (by omega)])

/-! ### One sorted row alone has the given equals in the given order -/
theorem feq_nil {D : Row} (h : Feq [] D) : D = [] := by
  cases D with
  | nil => rfl
  | cons x xs =>
    have := h x.1
    simp at this
def Sorted (D : Row) : Prop := D.Pairwise fun x y => x.1 ≤ y.1
theorem head_le {x y : Int × Int} {xs ys : Row} (h : Feq (x :: xs) (y :: ys)) (hs : Sorted (y :: ys)) : y.1 ≤ x.1 := by
  have : x ∈ (y :: ys).filter (fun e => e.1 == x.1) := by rw [← h x.1]; simp
  have hm := (List.mem_filter.1 this).1
  rcases List.mem_cons.1 hm with rfl | hm
  · exact Int.le_refl _
  · exact (List.pairwise_cons.1 hs).1 x hm
theorem Feq.symm {A B : Row} (h : Feq A B) : Feq B A := fun k => (h k).symm
theorem sorted_unique : ∀ {A B : Row}, Sorted A → Sorted B → Feq A B → A = B
  | [], B, _, _, h => (feq_nil h).symm
  | x :: xs, [], _, _, h => absurd (feq_nil h.symm) (by simp)
  | x :: xs, y :: ys, ha, hb, h => by
    have e : x.1 = y.1 := Int.le_antisymm (head_le h.symm ha) (head_le h hb)
    have h0 := h x.1
    simp only [List.filter_cons, beq_self_eq_true, if_true, e] at h0
    injection h0 with hxy ht
    subst hxy
    have : Feq xs ys := by
      intro k
      have hk := h k
      simp only [List.filter_cons] at hk
      split at hk
      · injection hk
      · exact hk
    rw [sorted_unique (List.pairwise_cons.1 ha).2 (List.pairwise_cons.1 hb).2 this]
theorem sorted_of_srt {D : Row} (h : Srt D 0 D.length) : Sorted D := by
  unfold Sorted
  rw [List.pairwise_iff_getElem]
  intro i j hi hj hij
  have := h i j (Nat.zero_le _) hij hj
  simpa [ky, el, hi, hj] using this
theorem srt_of_sorted {D : Row} (h : Sorted D) : Srt D 0 D.length := fun p q _ h2 h3 => by
  have := (List.pairwise_iff_getElem.1 h) p q (by omega) h3 h2
  simpa [ky, el, h3, show p < D.length by omega] using this
/-- The merge is sorted, and keeps the order of equals, the first row's ahead of the second's. -/
theorem mrg_mem {A B : Row} {x : Int × Int} (h : x ∈ mrg A B) : x ∈ A ∨ x ∈ B := List.mem_merge.1 h
theorem mrg_sorted : ∀ {A B : Row}, Sorted A → Sorted B → Sorted (mrg A B)
  | [], B, _, hb => by rw [mrg_nil_left]; exact hb
  | x :: xs, [], ha, _ => by rw [mrg_nil_right]; exact ha
  | x :: xs, y :: ys, ha, hb => by
    have ha' := List.pairwise_cons.1 ha
    have hb' := List.pairwise_cons.1 hb
    by_cases hle : x.1 ≤ y.1
    · rw [mrg_take _ _ hle]
      refine List.pairwise_cons.2 ⟨fun z hz => ?_, mrg_sorted ha'.2 hb⟩
      rcases mrg_mem hz with hz | hz
      · exact ha'.1 z hz
      · rcases List.mem_cons.1 hz with rfl | hz
        · exact hle
        · exact Int.le_trans hle (hb'.1 z hz)
    · rw [mrg_drop _ _ hle]
      refine List.pairwise_cons.2 ⟨fun z hz => ?_, mrg_sorted ha hb'.2⟩
      rcases mrg_mem hz with hz | hz
      · rcases List.mem_cons.1 hz with rfl | hz
        · omega
        · have := ha'.1 z hz
          omega
      · exact hb'.1 z hz
theorem mrg_feq : ∀ {A B : Row}, Sorted A → Feq (A ++ B) (mrg A B)
  | [], B, _ => by rw [mrg_nil_left]; exact Feq.refl _
  | x :: xs, [], _ => by rw [mrg_nil_right, List.append_nil]; exact Feq.refl _
  | x :: xs, y :: ys, ha => by
    have ha' := List.pairwise_cons.1 ha
    intro k
    by_cases hle : x.1 ≤ y.1
    · rw [mrg_take _ _ hle, List.cons_append, List.filter_cons, List.filter_cons, mrg_feq ha'.2 k]
    · rw [mrg_drop _ _ hle, List.filter_cons, ← mrg_feq (B := ys) ha k]
      simp only [List.filter_append, List.filter_cons (x := y)]
      by_cases hk : y.1 = k
      · have hn : (x :: xs).filter (fun e => e.1 == k) = [] := by
          rw [List.filter_eq_nil_iff]
          intro z hz hzk
          simp at hzk
          rcases List.mem_cons.1 hz with rfl | hz
          · omega
          · have := ha'.1 z hz
            omega
        rw [hn]
        simp [hk]
      · simp [hk]
/-- THE LAW: a sorted rearrangement of A ++ B that keeps the order of equals is the merge of A and B. -/
theorem stable_is_merge {A B D : Row} (ha : Sorted A) (hb : Sorted B) (hr : Feq (A ++ B) D) (hs : Srt D 0 D.length) : D = mrg A B :=
  sorted_unique (sorted_of_srt hs) (mrg_sorted ha hb) (hr.symm.trans (mrg_feq ha))

end Go.Proofs.Ybulkbaiq
