/- unite (36): it works in the storage of its argument. -/
import Derived.Test.YbulkbajeSort0
import Derived.ArgAppend
namespace Go.Proofs.Ybulkbaje
open Go.RowKit
set_option linter.unusedSimpArgs false
set_option linter.unusedVariables false

/-- Elements lo .. hi - 1 of the row are S's. -/
def At (cs : List Value) (S : List (Int × Int)) (lo hi : Nat) : Prop := ∀ t, lo ≤ t → t < hi → cs[t * 2]? = some (.int .u64 (S.getD t (0, 0)).1) ∧ cs[t * 2 + 1]? = some (.int .u64 (S.getD t (0, 0)).2)
theorem At.ofFlat (T : List (Int × Int)) (more : List Value) : At (flatS T ++ more) T 0 T.length := fun t _ ht => by
  have h := flatS_get T t ht
  have hl := flatS_length T
  rw [List.getElem?_append_left (by omega), List.getElem?_append_left (by omega)]
  exact h
theorem At.mono {cs : List Value} {S : List (Int × Int)} {lo hi lo' : Nat} (h : At cs S lo hi) (hl : lo ≤ lo') : At cs S lo' hi := fun t h1 h2 => h t (by omega) h2
theorem At.set {cs : List Value} {S : List (Int × Int)} {lo hi p : Nat} (h : At cs S lo hi) (v : Value) (hp : p < lo * 2) : At (cs.set p v) S lo hi := fun t h1 h2 => by
  rw [List.getElem?_set_ne (by omega), List.getElem?_set_ne (by omega)]
  exact h t h1 h2
theorem At.touch {cs : List Value} {O : List (Int × Int)} {M : Nat} {h' : Int} (h : At cs O 0 O.length) (hM : O.length = M + 1) (hl : O.length * 2 ≤ cs.length) : At (cs.set (M * 2 + 1) (.int .u64 h')) (O.set (O.length - 1) ((O.getD (O.length - 1) (0, 0)).1, h')) 0 O.length := fun t _ h2 => by
  rw [hM, Nat.add_sub_cancel]
  by_cases e : t = M
  · subst e
    rw [List.getElem?_set_ne (by omega), List.getElem?_set_self (by omega)]
    have := (h t (by omega) h2).1
    rw [this]
    simp [h2]
  · rw [List.getElem?_set_ne (by omega), List.getElem?_set_ne (by omega)]
    have := h t (by omega) h2
    have e2 : (O.set M ((O.getD M (0, 0)).1, h')).getD t (0, 0) = O.getD t (0, 0) := by
      rw [List.getD_eq_getElem?_getD, List.getElem?_set_ne (by omega), ← List.getD_eq_getElem?_getD]
    rw [e2]
    exact this
theorem At.app {cs : List Value} {O : List (Int × Int)} {s : Int × Int} (h : At cs O 0 O.length) (hl : O.length * 2 + 1 < cs.length) : At ((cs.set (O.length * 2) (.int .u64 s.1)).set (O.length * 2 + 1) (.int .u64 s.2)) (O ++ [s]) 0 (O.length + 1) := fun t _ h2 => by
  by_cases e : t = O.length
  · subst e
    have e2 : (O ++ [s]).getD O.length (0, 0) = s := by rw [List.getD_eq_getElem?_getD, List.getElem?_append_right (Nat.le_refl _)]; simp
    rw [e2, List.getElem?_set_ne (by omega), List.getElem?_set_self (by omega), List.getElem?_set_self (by simp; omega)]
    exact ⟨rfl, rfl⟩
  · rw [List.getElem?_set_ne (by omega), List.getElem?_set_ne (by omega), List.getElem?_set_ne (by omega), List.getElem?_set_ne (by omega)]
    have e2 : (O ++ [s]).getD t (0, 0) = O.getD t (0, 0) := by rw [List.getD_eq_getElem?_getD, List.getElem?_append_left (by omega), ← List.getD_eq_getElem?_getD]
    rw [e2]
    exact h t (by omega) (by omega)

/-- A slice of spans that lies at the head of a block of spans. -/
def ArgT (w : World) (a : Option Addr) (n : Nat) (S : List (Int × Int)) : Prop := S.length = n ∧ (0 < n → ∃ g cs, a = some ⟨g, 0, none⟩ ∧ Row w g cs 57 ∧ At cs S 0 n)
theorem ArgT.argS {w : World} {a : Option Addr} {n : Nat} {S : List (Int × Int)} (h : ArgT w a n S) : ArgS w a n S := by
  refine ⟨h.1, fun hn => ?_⟩
  obtain ⟨g, cs, rfl, hr, hA⟩ := h.2 hn
  refine ⟨g, 0, rfl, hr.lt, fun t ht => ?_⟩
  have := hA t (Nat.zero_le _) ht
  rw [Nat.zero_add]
  exact ⟨hr.cell this.1, hr.cell this.2⟩
theorem ArgT.step {T : TypeId} {w w' : World} {a : Option Addr} {n : Nat} {S : List (Int × Int)} (h : ArgT w a n S) (hs : Step T w w') (hT : 57 ≠ T) : ArgT w' a n S := by
  refine ⟨h.1, fun hn => ?_⟩
  obtain ⟨g, cs, e, hr, hA⟩ := h.2 hn
  exact ⟨g, cs, e, hs.block _ _ _ hT hr, hA⟩
theorem ArgT.below {w w' : World} {a : Option Addr} {n : Nat} {S : List (Int × Int)} (h : ArgT w a n S) (hb : Below w.heap.size w w') : ArgT w' a n S := by
  refine ⟨h.1, fun hn => ?_⟩
  obtain ⟨g, cs, e, hr, hA⟩ := h.2 hn
  exact ⟨g, cs, e, hr.below hb, hA⟩
theorem ArgT.nil (w : World) : ArgT w none 0 [] := ⟨rfl, fun h => by omega⟩

/-- The numbers are small. -/
def Sm (S : List (Int × Int)) : Prop := ∀ s ∈ S, 0 ≤ s.1 ∧ s.1 ≤ 1000 ∧ 0 ≤ s.2 ∧ s.2 ≤ 1000
theorem Sm.get {S : List (Int × Int)} (h : Sm S) (t : Nat) : 0 ≤ (S.getD t (0, 0)).1 ∧ (S.getD t (0, 0)).1 ≤ 1000 ∧ 0 ≤ (S.getD t (0, 0)).2 ∧ (S.getD t (0, 0)).2 ≤ 1000 := by
  by_cases e : t < S.length
  · have := h S[t] (List.getElem_mem e)
    simpa [e] using this
  · simp [e]
theorem Sm.add {O : List (Int × Int)} {s : Int × Int} (h : Sm O) (hs : 0 ≤ s.1 ∧ s.1 ≤ 1000 ∧ 0 ≤ s.2 ∧ s.2 ≤ 1000) : Sm (addS O s) := by
  unfold addS
  split
  · rename_i hc
    intro x hx
    rcases List.mem_or_eq_of_mem_set hx with h1 | h1
    · exact h x h1
    · subst h1
      have := h.get (O.length - 1)
      refine ⟨this.1, this.2.1, ?_, ?_⟩ <;> simp only [] <;> omega
  · intro x hx
    rcases List.mem_append.1 hx with h1 | h1
    · exact h x h1
    · simp at h1; subst h1; exact hs
theorem Sm.unite {T : List (Int × Int)} (h : Sm T) : ∀ k, Sm (uniteS (T.take k))
  | 0 => by intro x hx; simp [uniteS] at hx
  | k + 1 => by
    by_cases e : k < T.length
    · rw [uniteS_take T k e]; exact (Sm.unite h k).add (h.get k)
    · have := Sm.unite h k
      rwa [List.take_of_length_le (by omega), ← List.take_of_length_le (show T.length ≤ k by omega)]

theorem wpList_app57 {ops : Array Oper} {rest : List Oper} {o : Oper} {a : Act} {w : World} {Q : Exit → Act → World → Prop} (hgd : o.guard = none) (s x : Operand) (ho : o.op = Op.call { callee := Callee.builtin Builtin.append, args := #[s, x], argTypes := #[31, 31] })
    (g m cap h : Nat) (s1 s2 : Int) (hs : a.eval s = .slice (some ⟨g, 0, none⟩) m cap) (hx : a.eval x = .slice (some ⟨h, 0, none⟩) 1 1) (cs : List Value) (hr : Row w g cs 57) (hl : cs.length = cap * 2) (hm : m < cap) (hh : Row w h [.int .u64 s1, .int .u64 s2] 57)
    (hK : ∀ w', Row w' g ((cs.set (m * 2) (.int .u64 s1)).set (m * 2 + 1) (.int .u64 s2)) 57 → w.grownBy w' (some g) → wpList Yba.prog ops Q rest (a.put o.dst (.slice (some ⟨g, 0, none⟩) (m + 1) cap)) w') : wpList Yba.prog ops Q (o :: rest) a w := by
  obtain ⟨i0, hi, _, hz1, _⟩ := info_parts info57
  have hrun := run_append_room_cells (P := Yba.prog) w 31 o.type 57 i0 Yba.underlying31 hi g 0 m cap ⟨h, 0, none⟩ 1 1 [.int .u64 s1, .int .u64 s2] (by rw [hz1]; rfl)
    (fun j u hu => by rw [Addr.add_mid]; exact hh.cell (by simpa using hu)) (fun u hu => by simp at hu; rcases hu with rfl | rfl <;> rfl) (by omega)
    (fun j hj => by
      rw [hz1]
      have := (hr.there (o := m * 2) (n := 2) (by omega) j (by simpa using hj)).1
      simpa using this)
    (fun j hj => hr.frozen)
  rw [hz1, Nat.zero_add] at hrun
  refine wpList_plain hgd fun _ hKK => ?_
  unfold Oper.wp
  simp [execOp, ho, resolve, invoke, builtin, hs, hx, hrun, Result.andThen]
  exact hKK _ _ (hK _ (setCells_block g 57 [.int .u64 s1, .int .u64 s2] (m * 2) cs w hr).1 (setCells_block g 57 [.int .u64 s1, .int .u64 s2] (m * 2) cs w hr).2)
end Go.Proofs.Ybulkbaje
