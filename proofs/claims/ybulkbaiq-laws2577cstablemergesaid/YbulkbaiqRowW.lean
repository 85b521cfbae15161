/- A row of edits in a block of its own: what it holds, a store into it, what a call leaves of it. -/
import Derived.Test.YbulkbaiqEdits
import Derived.Test.YbulkbaiqStable
import Derived.Maps.AppendAt
namespace Go.Proofs.Ybulkbaiq
open Go.RowKit

/-- Block g holds the row D, and nothing else. -/
def Blk (w : World) (g : Nat) (D : Row) : Prop := w.heap[g]? = some (.cells (flat D).toArray 68 (0, 0))

theorem Blk.lt {w : World} {g : Nat} {D : Row} (h : Blk w g D) : g < w.heap.size := (Array.getElem?_eq_some_iff.1 h).1
theorem Blk.whole {w : World} {g : Nat} {D : Row} (h : Blk w g D) : w.rangeAt g 0 (flat D) := fun j v hj => by
  simp only [Nat.zero_add, World.cell?, show w.heap[g]? = _ from h]
  simpa using hj
theorem Blk.range {w : World} {g p : Nat} {D : Row} (h : Blk w g D) (hp : p < D.length) : w.rangeAt g (p * 33) (cellsE (el D p)) := by
  have := range_elem h.whole p hp
  rw [Nat.zero_add] at this
  exact this
theorem Blk.there {w : World} {g p : Nat} {D : Row} (h : Blk w g D) (hp : p < D.length) : w.there g (p * 33) 33 := fun j hj => by
  have hlt : p * 33 + j < (flat D).length := by rw [flat_length]; omega
  refine ⟨?_, ?_⟩
  · have := h.whole (p * 33 + j) _ (List.getElem?_eq_getElem hlt)
    rw [Nat.zero_add] at this
    rw [this]
    rfl
  · simp [World.frozen?, show w.heap[g]? = _ from h]
theorem Blk.grow {w w' : World} {g : Nat} {D : Row} {row : Option Nat} (h : Blk w g D) (hg : w.grownBy w' row) (hne : some g ≠ row) : Blk w' g D := (hg.block g h.lt hne).trans h
theorem Blk.drew {w : World} {g : Nat} {D : Row} (h : Blk w g D) : Blk w.drew g D := h
/-- From what is owned to what the block holds, where there is no spare room. -/
theorem Blk.of_owns {w : World} {base g n : Nat} {D : Row} (h : w.ownsRow base 68 33 (.slice (some ⟨g, 0, none⟩) n n) n (flat D)) : Blk w g D := by
  rcases h.2 with ⟨h, _⟩ | ⟨g', cap', cur, h, _, hg, _, _, hsz, htake⟩
  · simp at h
  · simp only [Value.slice.injEq, Option.some.injEq, Addr.mk.injEq, and_true, true_and] at h
    obtain ⟨rfl, rfl⟩ := h
    have e : cur.toList = flat D := by rw [← htake, List.take_of_length_le (by simp [hsz])]
    unfold Blk
    rw [hg, ← e]

theorem grown_drew (w : World) (row : Option Nat) : w.grownBy w.drew row := ⟨rfl, rfl, rfl, Nat.le_refl _, fun _ _ _ => rfl⟩
theorem grown_any {w w' : World} {row : Option Nat} (h : w.grownBy w' none) : w.grownBy w' row := ⟨h.os, h.tape, h.output, h.size, fun k hk _ => h.block k hk (by simp)⟩

/-! ### The store -/
def setAll : List Value → Nat → List Value → List Value
  | cur, _, [] => cur
  | cur, o, v :: r => setAll (cur.set o v) (o + 1) r
theorem setAll_right : ∀ (vs A B : List Value) (o : Nat), setAll (A ++ B) (A.length + o) vs = A ++ setAll B o vs
  | [], _, _, _ => rfl
  | v :: r, A, B, o => by
    unfold setAll
    rw [List.set_append_right _ _ (by omega), show A.length + o - A.length = o by omega, Nat.add_assoc, setAll_right r A _ (o + 1)]
theorem setAll_left : ∀ (vs A B : List Value), vs.length = A.length → setAll (A ++ B) 0 vs = vs ++ B
  | [], A, B, h => by
    have : A = [] := List.eq_nil_of_length_eq_zero h.symm
    subst this
    rfl
  | v :: r, [], B, h => by simp at h
  | v :: r, a :: A, B, h => by
    unfold setAll
    have := setAll_right r [v] (A ++ B) 0
    simp only [List.length_singleton, Nat.add_zero] at this
    simp only [List.cons_append, List.set_cons_zero, Nat.zero_add]
    rw [show v :: (A ++ B) = [v] ++ (A ++ B) from rfl, this, setAll_left r A B (by simpa using h)]
    rfl
theorem setAll_flat : ∀ (D : Row) (p : Nat) (x : Int × Int), p < D.length → setAll (flat D) (p * 33) (cellsE x) = flat (D.set p x)
  | [], p, x, h => by simp at h
  | d :: D, 0, x, _ => by
    rw [flat_cons, List.set_cons_zero, flat_cons, Nat.zero_mul, setAll_left _ _ _ (by rw [cellsE_length, cellsE_length])]
  | d :: D, p + 1, x, h => by
    have := setAll_right (cellsE x) (cellsE d) (flat D) (p * 33)
    rw [cellsE_length] at this
    rw [flat_cons, List.set_cons_succ, flat_cons, show (p + 1) * 33 = 33 + p * 33 by omega, this, setAll_flat D p x (by simpa using h)]
theorem setCells_block (g : Nat) (t : TypeId) : ∀ (vs : List Value) (o : Nat) (cur : List Value) (w : World), w.heap[g]? = some (.cells cur.toArray t (0, 0)) →
    (w.setCells g o vs).heap[g]? = some (.cells (setAll cur o vs).toArray t (0, 0)) ∧ w.grownBy (w.setCells g o vs) (some g)
  | [], _, _, w, h => ⟨h, World.grownBy.refl w _⟩
  | v :: r, o, cur, w, h => by
    have h1 := heap_setCell_same w g o cur.toArray t v h
    have e : cur.toArray.setIfInBounds o v = (cur.set o v).toArray := by simp
    rw [e] at h1
    obtain ⟨h2, h3⟩ := setCells_block g t r (o + 1) (cur.set o v) (w.setCell ⟨g, o, none⟩ v) h1
    refine ⟨h2, World.grownBy.trans ?_ h3⟩
    exact ⟨rfl, rfl, rfl, by simp, fun k _ hk => Below.heap_setCell w ⟨g, o, none⟩ v k (fun e => hk (by rw [e]))⟩
theorem Blk.store {w : World} {g p : Nat} {D : Row} (h : Blk w g D) (hp : p < D.length) (x : Int × Int) : Blk (w.setCells g (p * 33) (cellsE x)) g (D.set p x) ∧ w.grownBy (w.setCells g (p * 33) (cellsE x)) (some g) := by
  have := setCells_block g 68 (cellsE x) (p * 33) (flat D) w h
  rw [setAll_flat D p x hp] at this
  exact this

/-- The store of one element, at the operation. -/
theorem wp_put {o : Oper} {a : Act} {w : World} {K : Act → World → Prop} {Q : Exit → Act → World → Prop} (x y : Operand) (ho : o.op = .store 68 x y) (g p : Nat) (D : Row) (e : Int × Int)
    (hx : a.eval x = .pointer (some ⟨g, p * 33, none⟩)) (hy : a.eval y = .agg (cellsE e).toArray) (hb : Blk w g D) (hp : p < D.length)
    (h : ∀ w', Blk w' g (D.set p e) → w.grownBy w' (some g) → K (a.put o.dst undef) w') : o.wp Yba.prog a w K Q :=
  wp_store_mid 68 x y ho g (p * 33) (cellsE e).toArray hx hy (by simpa [cellsE_length] using hb.there hp) (by rw [size68]; rfl) (all_oneCell_toArray (cellsE_one e)) (h _ (hb.store hp e).1 (hb.store hp e).2)

theorem wp_put_to {o : Oper} {a : Act} {w : World} {K : Act → World → Prop} {Q : Exit → Act → World → Prop} (x y : Operand) (ho : o.op = .store 68 x y) (hd : o.dst = none) (g p : Nat) (D : Row) (e : Int × Int)
    (hx : a.eval x = .pointer (some ⟨g, p * 33, none⟩)) (hy : a.eval y = .agg (cellsE e).toArray) (hb : Blk w g D) (hp : p < D.length)
    (h : ∀ w', Blk w' g (D.set p e) → w.grownBy w' (some g) → K a w') : o.wp Yba.prog a w K Q :=
  wp_put x y ho g p D e hx hy hb hp (fun w' h1 h2 => by rw [hd]; exact h w' h1 h2)

/-- Two loads, neither of which waits for the other, as the two operations that may come up. -/
theorem two_loads {md : Region.Mode} {ops : Array Oper} {Q : Exit → Act → World → Prop} {fuel : Nat} {listed : Array Bool} {a : Act} {w : World} (i j : Nat) (di dj : Tmp) {oi oj : Oper} (hi : ops[i]? = some oi) (hj : ops[j]? = some oj)
    (hdi : oi.dst = some di) (hdj : oj.dst = some dj) (hgi : oi.guard = none) (hgj : oj.guard = none) (hij : i ≠ j) (hd : di ≠ dj) (xi xj : Operand) (hoi : oi.op = .load 68 xi) (hoj : oj.op = .load 68 xj) (hxi : ∀ v, (a.put (some dj) v).eval xi = a.eval xi) (hxj : ∀ v, (a.put (some di) v).eval xj = a.eval xj)
    (g oi' oj' : Nat) (ci cj : List Value) (hli : ci.length = 33) (hlj : cj.length = 33) (hei : a.eval xi = .pointer (some ⟨g, oi', none⟩)) (hej : a.eval xj = .pointer (some ⟨g, oj', none⟩)) (hri : w.rangeAt g oi' ci) (hrj : w.rangeAt g oj' cj)
    (hr : Region.ready md ops listed = [i, j]) (hr1 : Region.ready md ops (listed.setIfInBounds i true) = [j]) (hr2 : Region.ready md ops (listed.setIfInBounds j true) = [i])
    (fin : wpAnyH Yba.prog md ops Q (fun _ => True) fuel ((listed.setIfInBounds i true).setIfInBounds j true) ((a.put (some di) (.agg ci.toArray)).put (some dj) (.agg cj.toArray)) w) :
    wpAnyH Yba.prog md ops Q (fun _ => True) (fuel + 1 + 1) listed a w := by
  refine wpAnyH_ready hr (by simp) (AllReadyH.cons hi (fun K hK => ?_) (AllReadyH.cons hj (fun K hK => ?_) AllReadyH.nil))
  · rw [if_pos (by simp [Region.wanted, hgi])]
    refine wp_load_mid 68 xi hoi g oi' hei ci _ hri Yba.underlying68 rfl (by rw [size68, hli]) ?_
    rw [hdi]
    refine hK.out _ _ trivial (fun _ => ?_)
    refine wpAnyH_ready hr1 (by simp) (AllReadyH.cons hj (fun K2 hK2 => ?_) AllReadyH.nil)
    rw [if_pos (by simp [Region.wanted, hgj])]
    refine wp_load_mid 68 xj hoj g oj' ((hxj _).trans hej) cj _ hrj Yba.underlying68 rfl (by rw [size68, hlj]) ?_
    rw [hdj]
    exact hK2.out _ _ trivial (fun _ => fin)
  · rw [if_pos (by simp [Region.wanted, hgj])]
    refine wp_load_mid 68 xj hoj g oj' hej cj _ hrj Yba.underlying68 rfl (by rw [size68, hlj]) ?_
    rw [hdj]
    refine hK.out _ _ trivial (fun _ => ?_)
    refine wpAnyH_ready hr2 (by simp) (AllReadyH.cons hi (fun K2 hK2 => ?_) AllReadyH.nil)
    rw [if_pos (by simp [Region.wanted, hgi])]
    refine wp_load_mid 68 xi hoi g oi' ((hxi _).trans hei) ci _ hri Yba.underlying68 rfl (by rw [size68, hli]) ?_
    rw [hdi]
    refine hK2.out _ _ trivial (fun _ => ?_)
    rw [Array.setIfInBounds_comm _ _ (fun e => hij e.symm), Act.put_comm _ _ _ (by simpa using hd)]
    exact fin

end Go.Proofs.Ybulkbaiq
