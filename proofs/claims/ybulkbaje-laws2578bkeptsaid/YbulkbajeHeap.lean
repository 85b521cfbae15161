/- What zzs2578bbuild lays in memory: spans behind interface values behind slices; what later steps keep of it. -/
import Derived.Test.YbulkbajeIdx
import Derived.Maps.AppendAt
namespace Go.Proofs.Ybulkbaje
open Go.RowKit
set_option linter.unusedVariables false

def cellsS (s : Int × Int) : List Value := [.int .u64 s.1, .int .u64 s.2]
def flatS (S : List (Int × Int)) : List Value := S.flatMap cellsS
theorem flatS_nil : flatS [] = [] := rfl
theorem flatS_cons (s : Int × Int) (S : List (Int × Int)) : flatS (s :: S) = .int .u64 s.1 :: .int .u64 s.2 :: flatS S := rfl
theorem flatS_append (S T : List (Int × Int)) : flatS (S ++ T) = flatS S ++ flatS T := by simp [flatS]
theorem flatS_length : ∀ S : List (Int × Int), (flatS S).length = S.length * 2
  | [] => rfl
  | s :: S => by rw [flatS_cons, List.length_cons, List.length_cons, List.length_cons, flatS_length S]; omega
theorem flatS_get : ∀ (S : List (Int × Int)) (t : Nat), t < S.length → (flatS S)[t * 2]? = some (.int .u64 (S.getD t (0, 0)).1) ∧ (flatS S)[t * 2 + 1]? = some (.int .u64 (S.getD t (0, 0)).2)
  | [], t, h => by simp at h
  | s :: S, 0, _ => ⟨rfl, rfl⟩
  | s :: S, t + 1, h => by
    have := flatS_get S t (by simpa using h)
    rw [show (t + 1) * 2 = t * 2 + 1 + 1 by omega, flatS_cons, List.getD_cons_succ]
    simpa using this
theorem flatS_one (S : List (Int × Int)) : ∀ v ∈ flatS S, v.oneCell' = true := by
  intro v hv
  obtain ⟨p, _, h⟩ := List.mem_flatMap.1 hv
  simp only [cellsS, List.mem_cons, List.not_mem_nil, or_false] at h
  rcases h with h | h <;> (subst h; rfl)

/-- A block that holds a whole row of the given element type. -/
def Row (w : World) (g : Nat) (cs : List Value) (t : TypeId) : Prop := w.heap[g]? = some (.cells cs.toArray t (0, 0))
theorem Row.lt {w : World} {g : Nat} {cs : List Value} {t : TypeId} (h : Row w g cs t) : g < w.heap.size := (Array.getElem?_eq_some_iff.1 h).1
theorem Row.cell {w : World} {g j : Nat} {cs : List Value} {t : TypeId} {v : Value} (h : Row w g cs t) (hj : cs[j]? = some v) : w.cell? ⟨g, j, none⟩ = some v := by
  simp only [World.cell?, show w.heap[g]? = _ from h]
  simpa using hj
theorem Row.frozen {w : World} {g j : Nat} {cs : List Value} {t : TypeId} (h : Row w g cs t) : w.frozen? ⟨g, j, none⟩ = false := by
  simp [World.frozen?, show w.heap[g]? = _ from h]
/-- A step that writes, if anything old, into rows of type T alone. -/
structure Step (T : TypeId) (w w' : World) : Prop where
  os : w'.os = w.os
  tape : w'.tape = w.tape
  output : w'.output = w.output
  size : w.heap.size ≤ w'.heap.size
  block : ∀ k cs t, t ≠ T → Row w k cs t → Row w' k cs t
theorem Step.of_grown {T : TypeId} {w w' : World} {row : Option Nat} (h : w.grownBy w' row) (hr : ∀ k, row = some k → ∃ cs, w.heap[k]? = some (.cells cs T (0, 0))) : Step T w w' where
  os := h.os
  tape := h.tape
  output := h.output
  size := h.size
  block k cs t hT hk := by
    refine (h.block k hk.lt (fun e => ?_)).trans hk
    obtain ⟨cs', h'⟩ := hr k e.symm
    rw [show w.heap[k]? = _ from hk] at h'
    injection h' with h'
    injection h' with _ h2 _
    exact hT h2
theorem Step.refl (T : TypeId) (w : World) : Step T w w := ⟨rfl, rfl, rfl, Nat.le_refl _, fun _ _ _ _ h => h⟩
theorem Step.alloc (T : TypeId) (w : World) (o : Obj) : Step T w (w.alloc o) := Step.of_grown (World.grownBy_alloc w o none) (fun k h => by cases h)
theorem Step.trans {T : TypeId} {a b c : World} (h : Step T a b) (k : Step T b c) : Step T a c := ⟨k.os.trans h.os, k.tape.trans h.tape, k.output.trans h.output, Nat.le_trans h.size k.size, fun i cs t hT hi => k.block i cs t hT (h.block i cs t hT hi)⟩
theorem Row.below {w w' : World} {g : Nat} {cs : List Value} {t : TypeId} (h : Row w g cs t) (hb : Below w.heap.size w w') : Row w' g cs t := (hb.block g h.lt).trans h

/-- A slice of one value, which holds spans. -/
def Val (w : World) (v : Value) (S : List (Int × Int)) : Prop := ∃ h s, v = .slice (some ⟨h, 0, none⟩) 1 1 ∧ Row w h [.iface 31 (.slice (some ⟨s, 0, none⟩) S.length S.length)] 77 ∧ Row w s (flatS S) 57
theorem Val.step {T : TypeId} {w w' : World} {v : Value} {S : List (Int × Int)} (h : Val w v S) (hs : Step T w w') (h1 : 77 ≠ T) (h2 : 57 ≠ T) : Val w' v S := by
  obtain ⟨a, b, e, r1, r2⟩ := h
  exact ⟨a, b, e, hs.block _ _ _ h1 r1, hs.block _ _ _ h2 r2⟩
theorem Val.below {w w' : World} {v : Value} {S : List (Int × Int)} (h : Val w v S) (hb : Below w.heap.size w w') : Val w' v S := by
  obtain ⟨a, b, e, r1, r2⟩ := h
  exact ⟨a, b, e, r1.below hb, r2.below hb⟩
/-- A list of such values, in order. -/
def Vals (w : World) (us : List Value) (Ss : List (List (Int × Int))) : Prop := us.length = Ss.length ∧ ∀ t, t < Ss.length → ∃ u, us[t]? = some u ∧ Val w u (Ss.getD t [])
theorem Vals.nil (w : World) : Vals w [] [] := ⟨rfl, fun t h => by simp at h⟩
theorem Vals.step {T : TypeId} {w w' : World} {us : List Value} {Ss : List (List (Int × Int))} (h : Vals w us Ss) (hs : Step T w w') (h1 : 77 ≠ T) (h2 : 57 ≠ T) : Vals w' us Ss :=
  ⟨h.1, fun t ht => by obtain ⟨u, e, hv⟩ := h.2 t ht; exact ⟨u, e, hv.step hs h1 h2⟩⟩
theorem Vals.below {w w' : World} {us : List Value} {Ss : List (List (Int × Int))} (h : Vals w us Ss) (hb : Below w.heap.size w w') : Vals w' us Ss :=
  ⟨h.1, fun t ht => by obtain ⟨u, e, hv⟩ := h.2 t ht; exact ⟨u, e, hv.below hb⟩⟩
theorem Vals.snoc {w : World} {us : List Value} {Ss : List (List (Int × Int))} {u : Value} {S : List (Int × Int)} (h : Vals w us Ss) (hu : Val w u S) : Vals w (us ++ [u]) (Ss ++ [S]) := by
  refine ⟨by simp [h.1], fun t ht => ?_⟩
  by_cases e : t < Ss.length
  · obtain ⟨x, e1, e2⟩ := h.2 t e
    refine ⟨x, ?_, ?_⟩
    · rw [List.getElem?_append_left (by rw [h.1]; exact e)]; exact e1
    · rw [List.getD_eq_getElem?_getD, List.getElem?_append_left e, ← List.getD_eq_getElem?_getD]; exact e2
  · have : t = Ss.length := by simp at ht; omega
    subst this
    refine ⟨u, ?_, ?_⟩
    · rw [← h.1, List.getElem?_append_right (Nat.le_refl _)]; simp
    · rw [List.getD_eq_getElem?_getD, List.getElem?_append_right (Nat.le_refl _)]; simpa using hu
theorem Vals.append {w : World} {us vs : List Value} {Ss Ts : List (List (Int × Int))} (h : Vals w us Ss) (k : Vals w vs Ts) : Vals w (us ++ vs) (Ss ++ Ts) := by
  refine ⟨by simp [h.1, k.1], fun t ht => ?_⟩
  by_cases e : t < Ss.length
  · obtain ⟨x, e1, e2⟩ := h.2 t e
    refine ⟨x, ?_, ?_⟩
    · rw [List.getElem?_append_left (by rw [h.1]; exact e)]; exact e1
    · rw [List.getD_eq_getElem?_getD, List.getElem?_append_left e, ← List.getD_eq_getElem?_getD]; exact e2
  · obtain ⟨x, e1, e2⟩ := k.2 (t - Ss.length) (by simp at ht; omega)
    refine ⟨x, ?_, ?_⟩
    · rw [List.getElem?_append_right (by rw [h.1]; omega), h.1]; exact e1
    · rw [List.getD_eq_getElem?_getD, List.getElem?_append_right (by omega), ← List.getD_eq_getElem?_getD]; exact e2
/-- The rests of one joined row. -/
def Rests (w : World) (v : Value) (Ss : List (List (Int × Int))) : Prop := ∃ g c us more, v = .slice (some ⟨g, 0, none⟩) Ss.length c ∧ Row w g (us ++ more) 38 ∧ (us ++ more).length = c ∧ c ≤ maxLen ∧ Vals w us Ss
theorem Rests.step {T : TypeId} {w w' : World} {v : Value} {Ss : List (List (Int × Int))} (h : Rests w v Ss) (hs : Step T w w') (h1 : 77 ≠ T) (h2 : 57 ≠ T) (h3 : 38 ≠ T) : Rests w' v Ss := by
  obtain ⟨g, c, us, more, e, r, l, m, hv⟩ := h
  exact ⟨g, c, us, more, e, hs.block _ _ _ h3 r, l, m, hv.step hs h1 h2⟩
theorem Rests.below {w w' : World} {v : Value} {Ss : List (List (Int × Int))} (h : Rests w v Ss) (hb : Below w.heap.size w w') : Rests w' v Ss := by
  obtain ⟨g, c, us, more, e, r, l, m, hv⟩ := h
  exact ⟨g, c, us, more, e, r.below hb, l, m, hv.below hb⟩
theorem Rests.of_owns {w : World} {base : Nat} {v : Value} {n : Nat} {us : List Value} {Ss : List (List (Int × Int))} (h : w.ownsRow base 38 1 v n us) (hn : 0 < n) (hv : Vals w us Ss) : Rests w v Ss := by
  have hun : us.length = n := by rw [h.1, Nat.mul_one]
  rcases h.2 with ⟨_, h0⟩ | ⟨g, cap, cur, e, _, hg, hnc, hcm, hsz, htake⟩
  · omega
  · refine ⟨g, cap, us, cur.toList.drop n, ?_, ?_, ?_, hcm, hv⟩
    · rw [e, ← hv.1, hun]
    · unfold Row
      rw [hg]
      have : us ++ cur.toList.drop n = cur.toList := by
        rw [Nat.mul_one] at htake
        rw [← htake, List.take_append_drop]
      rw [this]
    · rw [List.length_append, List.length_drop, hun, Array.length_toList, hsz]
      omega
/-- The spans of one row of data. -/
def restsOf (d : List Int) : List (List (Int × Int)) := if d = [] then [[]] else d.map fun v => [spanOf v]
theorem restsOf_pos (d : List Int) : 0 < (restsOf d).length := by
  unfold restsOf
  split
  · simp
  · rename_i h
    simp [List.length_pos_iff, h]
/-- The joined rows, each of two cells, its rests the second. -/
def Rows' (w : World) (g n : Nat) (L : List (List Int)) : Prop := ∃ cs, Row w g cs 41 ∧ cs.length = n * 2 ∧ ∀ i, i < n → ∃ v, cs[i * 2 + 1]? = some v ∧ Rests w v (restsOf (L.getD i []))
theorem Rows'.below {w w' : World} {g n : Nat} {L : List (List Int)} (h : Rows' w g n L) (hb : Below w.heap.size w w') : Rows' w' g n L := by
  obtain ⟨cs, r, l, hv⟩ := h
  exact ⟨cs, r.below hb, l, fun i hi => by obtain ⟨v, e, hr⟩ := hv i hi; exact ⟨v, e, hr.below hb⟩⟩
end Go.Proofs.Ybulkbaje
