/- The struct 'edit' in memory: 33 cells, of which the laws read the first two; one element made into a slice of its own; an append within the capacity, in a region that draws its order. -/
import Derived.Test.YbulkbaiqRows
import Derived.Test.YbulkbaiqPlain
import Derived.WalkKit
import Derived.Deep.MidRow
import Derived.Great.BuildSlice
import Derived.Deep.RegionHeld3
namespace Go.Proofs.Ybulkbaiq
open Go.RowKit

/-- The cells of an edit behind its first two: all zero. -/
def tailE : List Value :=
  [.pointer none, .slice none 0 0, .string ⟨#[]⟩, .int .u8 0, .int .i64 0, .string ⟨#[]⟩, .string ⟨#[]⟩, .string ⟨#[]⟩, .string ⟨#[]⟩, .bool false, .int .i64 0, .int .i64 0, .int .i64 0, .int .i64 0, .int .i64 0,
    .slice none 0 0, .string ⟨#[]⟩, .string ⟨#[]⟩, .int .u8 0, .int .i64 0, .string ⟨#[]⟩, .string ⟨#[]⟩, .string ⟨#[]⟩, .string ⟨#[]⟩, .bool false, .int .i64 0, .int .i64 0, .int .i64 0, .int .i64 0, .int .i64 0, .bool false]
def cellsE (p : Int × Int) : List Value := .int .i64 p.1 :: .int .i64 p.2 :: tailE
def flat (xs : List (Int × Int)) : List Value := xs.flatMap cellsE

theorem cellsE_length (p : Int × Int) : (cellsE p).length = 33 := rfl
theorem cellsE_size (p : Int × Int) : (cellsE p).toArray.size = 33 := rfl
theorem tailE_one : ∀ v ∈ tailE, v.oneCell' = true := by
  intro v hv
  simp only [tailE, List.mem_cons, List.not_mem_nil, or_false] at hv
  rcases hv with h | h | h | h | h | h | h | h | h | h | h | h | h | h | h | h | h | h | h | h | h | h | h | h | h | h | h | h | h | h | h <;> (subst h; rfl)
theorem cellsE_one (p : Int × Int) : ∀ v ∈ cellsE p, v.oneCell' = true := by
  intro v hv
  simp only [cellsE, List.mem_cons] at hv
  rcases hv with h | h | h
  · subst h; rfl
  · subst h; rfl
  · exact tailE_one v h
theorem flat_nil : flat [] = [] := rfl
theorem flat_cons (p : Int × Int) (xs : List (Int × Int)) : flat (p :: xs) = cellsE p ++ flat xs := by simp [flat]
theorem flat_one (p : Int × Int) : flat [p] = cellsE p := by simp [flat]
theorem flat_append (xs ys : List (Int × Int)) : flat (xs ++ ys) = flat xs ++ flat ys := by simp [flat]
theorem flat_length : ∀ xs : List (Int × Int), (flat xs).length = xs.length * 33
  | [] => rfl
  | p :: xs => by rw [flat_cons, List.length_append, flat_length xs, cellsE_length, List.length_cons]; omega
theorem flat_oneCell (xs : List (Int × Int)) : ∀ v ∈ flat xs, v.oneCell' = true := by
  intro v hv
  obtain ⟨p, _, h⟩ := List.mem_flatMap.1 hv
  exact cellsE_one p v h

theorem info68 : (Yba.prog.info? 68).map (fun i => (i.zero, i.size, i.bytes)) = some (some (.agg (cellsE (0, 0)).toArray), 33, 384) := by kernel_rfl
theorem size68 : (Yba.prog.info? 68).map (·.size) = some 33 := by kernel_rfl

theorem rangeAt_left {w : World} {b o : Nat} {xs ys : List Value} (h : w.rangeAt b o (xs ++ ys)) : w.rangeAt b o xs := fun j v hj => by
  refine h j v ?_
  have := (List.getElem?_eq_some_iff.1 hj).1
  rw [List.getElem?_append_left this]
  exact hj
theorem rangeAt_right {w : World} {b o : Nat} {xs ys : List Value} (h : w.rangeAt b o (xs ++ ys)) : w.rangeAt b (o + xs.length) ys := fun j v hj => by
  have := h (xs.length + j) v (by rw [List.getElem?_append_right (by omega)]; simpa using hj)
  rw [Nat.add_assoc]
  exact this
theorem rangeAt_below {B : Nat} {w w' : World} {b o : Nat} {xs : List Value} (h : w.rangeAt b o xs) (hb : Below B w w') (hlt : b < B) : w'.rangeAt b o xs := fun j v hj => by
  rw [hb.cell (p := ⟨b, o + j, none⟩) hlt]
  exact h j v hj
theorem range_first {w : World} {b o : Nat} {p : Int × Int} (h : w.rangeAt b o (cellsE p)) : w.cell? ⟨b, o, none⟩ = some (.int .i64 p.1) := h 0 _ rfl
theorem range_last {w : World} {b o : Nat} {p : Int × Int} (h : w.rangeAt b o (cellsE p)) : w.cell? ⟨b, o + 1, none⟩ = some (.int .i64 p.2) := h 1 _ rfl

/-- What is owned lies there. -/
theorem owns_range {w : World} {base g n cap : Nat} {xs : List Value} (h : w.ownsRow base 68 33 (.slice (some ⟨g, 0, none⟩) n cap) n xs) : w.rangeAt g 0 xs := fun j v hj => by
  rcases h.2 with ⟨h, _⟩ | ⟨g', cap', cur, h, _, hg, _, _, _, htake⟩
  · simp at h
  · simp only [Value.slice.injEq, Option.some.injEq, Addr.mk.injEq, and_true, true_and] at h
    obtain ⟨rfl, rfl⟩ := h
    rw [← htake] at hj
    have hlt := (List.getElem?_eq_some_iff.1 hj).1
    rw [List.getElem?_take_of_lt (by simp at hlt; omega)] at hj
    simp only [Nat.zero_add, World.cell?, hg]
    simpa using hj

/-- 'append(out, e)' first lays e in a block of its own. -/
theorem run_single (w : World) (cs : List Value) (hc : cs.length = 33) :
    (Instr.buildSlice 60 1 #[(0, .agg cs.toArray)]).run Yba.prog w = .ok (.slice (some ⟨w.heap.size, 0, none⟩) 1 1) (w.alloc (.cells cs.toArray 68)) := by
  obtain ⟨i0, hi, hz0, hz1, hz2⟩ := info_parts info68
  refine run_buildSlice w 60 68 1 _ cs.toArray i0 _ Yba.underlying60 hi hz0 (by rw [hz1]; decide) (by rw [hz1]; decide) ?_
  rw [hz1]
  have := Great.fill_whole (s := 33) (by decide) [.agg cs.toArray] ((Array.range (1 * 33)).map ((Value.agg (cellsE (0, 0)).toArray).cells[· % (Value.agg (cellsE (0, 0)).toArray).cells.size]!)) (by simp [Value.cells, hc]) (by simp)
  simpa [Value.cells] using this

theorem wp_single {o : Oper} {a : Act} {w : World} {K : Act → World → Prop} {Q : Exit → Act → World → Prop} (x : Operand) (ho : o.op = .buildSlice 60 1 #[(0, x)]) (cs : List Value) (hc : cs.length = 33) (hx : a.eval x = .agg cs.toArray)
    (h : K (a.put o.dst (.slice (some ⟨w.heap.size, 0, none⟩) 1 1)) (w.alloc (.cells cs.toArray 68))) : o.wp Yba.prog a w K Q := by
  unfold Oper.wp execOp
  simp only [ho, Sem.run_bind, List.map_toArray, List.map_cons, List.map_nil, hx, run_single w cs hc, Result.andThen_ok]
  exact h
theorem wpList_single {ops : Array Oper} {rest : List Oper} {o : Oper} {a : Act} {w : World} {Q : Exit → Act → World → Prop} (hg : o.guard = none) (x : Operand) (ho : o.op = .buildSlice 60 1 #[(0, x)]) (cs : List Value) (hc : cs.length = 33)
    (hx : a.eval x = .agg cs.toArray) (h : wpList Yba.prog ops Q rest (a.put o.dst (.slice (some ⟨w.heap.size, 0, none⟩) 1 1)) (w.alloc (.cells cs.toArray 68))) : wpList Yba.prog ops Q (o :: rest) a w :=
  wpList_plain hg fun _ hK => wp_single x ho cs hc hx (hK _ _ h)

theorem wp_single_to {o : Oper} {a : Act} {w : World} {K : Act → World → Prop} {Q : Exit → Act → World → Prop} (x : Operand) (d : Tmp) (ho : o.op = .buildSlice 60 1 #[(0, x)]) (hd : o.dst = some d) (cs : List Value) (hc : cs.length = 33) (hx : a.eval x = .agg cs.toArray)
    (h : K (a.put (some d) (.slice (some ⟨w.heap.size, 0, none⟩) 1 1)) (w.alloc (.cells cs.toArray 68))) : o.wp Yba.prog a w K Q :=
  wp_single x ho cs hc hx (by rw [hd]; exact h)

/-- One operation of a region that draws its order taken first; where its value goes is said. -/
theorem take_to {P : Program} {md : Region.Mode} {ops : Array Oper} {Q : Exit → Act → World → Prop} {S : World → Prop} {fuel : Nat} {listed : Array Bool} {a : Act} {w : World} (i : Nat) (d : Tmp) (v : Value) {oi : Oper} (hi : ops[i]? = some oi) (hd : oi.dst = some d)
    (hs : Region.noSelect ops = true) (hf : Region.free md ops listed i = true) (hr : (Region.ready md ops listed).contains i = true)
    (hQ : ∀ c a w, Q (.panic c) (a.put (some d) v) w → Q (.panic c) a w) (hy : YieldsIf P ops S oi v a) (hS : S w)
    (h : wpAnyH P md ops Q S fuel (listed.setIfInBounds i true) (a.put (some d) v) w) : wpAnyH P md ops Q S (fuel + 1) listed a w :=
  wpAnyH_take hi hs hf hr (by rw [hd]; exact hQ) hy hS (by rw [hd]; exact h)

/-- The literal 'edit{first: a, last: b}'. -/
theorem run_edit (w : World) (a b : Int) : (Instr.build 68 #[(0, .int .i64 a), (1, .int .i64 b)]).run Yba.prog w = .ok (.agg (cellsE (a, b)).toArray) w := by kernel_rfl
theorem wpList_edit {ops : Array Oper} {rest : List Oper} {o : Oper} {a : Act} {w : World} {Q : Exit → Act → World → Prop} (hg : o.guard = none) (x y : Operand) (ho : o.op = .build 68 #[(0, x), (1, y)]) (p q : Int)
    (hx : a.eval x = .int .i64 p) (hy : a.eval y = .int .i64 q) (h : wpList Yba.prog ops Q rest (a.put o.dst (.agg (cellsE (p, q)).toArray)) w) : wpList Yba.prog ops Q (o :: rest) a w :=
  wpList_plain hg fun _ hK => by
    unfold Oper.wp execOp
    simp only [ho, Sem.run_bind, List.map_toArray, List.map_cons, List.map_nil, hx, hy, run_edit, Result.andThen_ok]
    exact hK _ _ h

/-- The cells of a single element's own block. -/
theorem single_cells (w : World) (cs : List Value) : ∀ j u, cs[j]? = some u → (w.alloc (.cells cs.toArray 68)).cell? ((⟨w.heap.size, 0, none⟩ : Addr).add j) = some u := by
  intro j u hj
  rw [Addr.add_mid]
  simp [hj]

/-- append WITHIN THE CAPACITY onto a row of the call's own, at the operation. -/
theorem wp_append_fits {o : Oper} {a : Act} {w : World} {K : Act → World → Prop} {Q : Exit → Act → World → Prop} (s x : Operand)
    (ho : o.op = Op.call { callee := Callee.builtin Builtin.append, args := #[s, x], argTypes := #[60, 60] })
    (base g k cap : Nat) (xs : List Value) (hs : a.eval s = .slice (some ⟨g, 0, none⟩) k cap) (hown : w.ownsRow base 68 33 (.slice (some ⟨g, 0, none⟩) k cap) k xs) (ad : Addr) (m c : Nat) (news : List Value)
    (hx : a.eval x = .slice (some ad) m c) (hn : news.length = m * 33) (hc : ∀ j u, news[j]? = some u → w.cell? (ad.add j) = some u) (h1c : ∀ u ∈ news, u.oneCell' = true) (b1 : k + m ≤ cap)
    (hK : ∀ w', w'.ownsRow base 68 33 (.slice (some ⟨g, 0, none⟩) (k + m) cap) (k + m) (xs ++ news) → w.grownBy w' (some g) → K (a.put o.dst (.slice (some ⟨g, 0, none⟩) (k + m) cap)) w') : o.wp Yba.prog a w K Q := by
  obtain ⟨i0, hi, _, hz1, _⟩ := info_parts info68
  obtain ⟨w', hrun, r1, r2⟩ := run_append_fits (P := Yba.prog) w base 60 o.type 68 i0 33 Yba.underlying60 hi hz1 g k cap xs hown ad m c news hn hc h1c b1
  unfold Oper.wp
  simp [execOp, ho, resolve, invoke, builtin, hs, hx, hrun, Result.andThen]
  exact hK w' r1 r2

theorem wp_append_to {o : Oper} {a : Act} {w : World} {K : Act → World → Prop} {Q : Exit → Act → World → Prop} (s x : Operand) (d : Tmp)
    (ho : o.op = Op.call { callee := Callee.builtin Builtin.append, args := #[s, x], argTypes := #[60, 60] }) (hd : o.dst = some d)
    (base g k cap : Nat) (xs : List Value) (hs : a.eval s = .slice (some ⟨g, 0, none⟩) k cap) (hown : w.ownsRow base 68 33 (.slice (some ⟨g, 0, none⟩) k cap) k xs) (ad : Addr) (m c : Nat) (news : List Value)
    (hx : a.eval x = .slice (some ad) m c) (hn : news.length = m * 33) (hc : ∀ j u, news[j]? = some u → w.cell? (ad.add j) = some u) (h1c : ∀ u ∈ news, u.oneCell' = true) (b1 : k + m ≤ cap)
    (hK : ∀ w', w'.ownsRow base 68 33 (.slice (some ⟨g, 0, none⟩) (k + m) cap) (k + m) (xs ++ news) → w.grownBy w' (some g) → K (a.put (some d) (.slice (some ⟨g, 0, none⟩) (k + m) cap)) w') : o.wp Yba.prog a w K Q :=
  wp_append_fits s x ho base g k cap xs hs hown ad m c news hx hn hc h1c b1 (fun w' h1 h2 => by rw [hd]; exact hK w' h1 h2)

/-- A store of a whole edit into a block of its own: the block, and nothing else, has turned. -/
theorem wpList_store_own {ops : Array Oper} {rest : List Oper} {o : Oper} {a : Act} {w : World} {Q : Exit → Act → World → Prop} (hgd : o.guard = none) (x y : Operand) (ho : o.op = .store 68 x y)
    (g : Nat) (cs : List Value) (hl : cs.length = 33) (h1 : ∀ v ∈ cs, v.oneCell' = true) (hx : a.eval x = .pointer (some ⟨g, 0, none⟩)) (hy : a.eval y = .agg cs.toArray)
    (old : Array Value) (hg : w.heap[g]? = some (.cells old 68 (0, 0))) (hold : old.size = 33)
    (h : ∀ w', w'.heap[g]? = some (.cells cs.toArray 68 (0, 0)) → w.grownBy w' (some g) → wpList Yba.prog ops Q rest (a.put o.dst undef) w') : wpList Yba.prog ops Q (o :: rest) a w :=
  wpList_store_row hgd 68 x y ho g cs.toArray hx hy 68 old hg (by rw [size68]; simp [hl]) (by simp [hl, hold]) (all_oneCell_toArray h1)
    (h _ (setRow_heap w g old _ 68 _ hg) ⟨rfl, rfl, rfl, by simp, fun k _ hk => setRow_other w g k _ (fun e => hk (by simp [e]))⟩)
theorem block_cell {w : World} {g : Nat} {cs : List Value} (h : w.heap[g]? = some (.cells cs.toArray 68 (0, 0))) : w.rangeAt g 0 cs := fun j v hj => by
  simp only [Nat.zero_add, World.cell?, h]
  simpa using hj
theorem range_elem {w : World} {g : Nat} : ∀ {xs : List (Int × Int)} {o : Nat}, w.rangeAt g o (flat xs) → ∀ p, p < xs.length → w.rangeAt g (o + p * 33) (cellsE (xs.getD p (0, 0)))
  | [], _, _, p, hp => by simp at hp
  | x :: xs, o, h, 0, _ => by rw [flat_cons] at h; simpa using rangeAt_left h
  | x :: xs, o, h, p + 1, hp => by
    rw [flat_cons] at h
    have := range_elem (rangeAt_right h) p (by simpa using hp)
    rw [cellsE_length] at this
    rw [show o + (p + 1) * 33 = o + 33 + p * 33 by omega, List.getD_cons_succ]
    exact this

end Go.Proofs.Ybulkbaiq
