/- (*rests).of (8) where the first field is the last: no parts, nothing turned. -/
import Derived.Test.YbulkbajeOf
namespace Go.Proofs.Ybulkbaje
open Go.RowKit
set_option linter.unusedSimpArgs false
set_option linter.unusedVariables false

theorem last_calls0 (x : Value) (g n c : Nat) (a : Option Addr) (d : Nat) (w : World) (hlt : g < w.heap.size) (hg : w.cell? ⟨g, 0, none⟩ = some (.slice a 0 d)) (hn : 0 < n) (q : Nat) (os : Array Obj) :
    Calls Yba.prog 16 #[.agg #[x, .slice (some ⟨g, 0, none⟩) n c]] (Go.Sort.grow (w.drewN q) os) fun e w'' => e = .returned (.bool true) ∧ ∃ p : GrownBy, w'' = Go.Sort.grow (w.drewN p.n) p.os := by
  refine Calls.grown_of ((last_any x g n c a 0 d _ (by rw [Go.Sort.size_grow]; exact Nat.lt_of_lt_of_le hlt (Nat.le_add_right _ _)) (cell_grown (a := ⟨g, 0, none⟩) hlt hg q os) hn).mono ?_)
  rintro e w' ⟨rfl, o, rfl⟩
  refine ⟨by simp, 0, #[.cells o 41], ?_⟩
  rw [Go.Sort.alloc_eq_grow]
  rfl

set_option maxRecDepth 100000 in
set_option maxHeartbeats 1600000 in
theorem of_last (r gL g b : Nat) (x a k1 k2 k3 k4 : Value) (al : Option Addr) (d : Nat) (w : World) (hrow : Row w r [.slice (some ⟨gL, 0, none⟩) 1 1, k1, k2, k3, k4] 45) (hL : Row w gL [x, .slice (some ⟨g, 0, none⟩) 1 1] 41) (hg : Row w g [.slice al 0 d] 38) (hb : Row w b [.int .i64 0] 3) :
    Calls Yba.prog 8 #[.pointer (some ⟨r, 0, none⟩), .slice (some ⟨b, 0, none⟩) 1 1] w fun e w' => e = .returned (.agg #[.slice none 0 0, .slice none 0 0]) ∧ Below w.heap.size w w' := by
  have l1 := hrow.lt
  have l2 := hL.lt
  have l3 := hg.lt
  have l4 := hb.lt
  have d1 := (row_alloc hrow (.cells #[.slice none 0 0, .slice none 0 0] 33)).cell (j := 0) rfl
  have d2 := (row_alloc hL (.cells #[.slice none 0 0, .slice none 0 0] 33)).cell (j := 0) rfl
  have d3 := (row_alloc hL (.cells #[.slice none 0 0, .slice none 0 0] 33)).cell (j := 1) rfl
  have d4 := (row_alloc hg (.cells #[.slice none 0 0, .slice none 0 0] 33)).cell (j := 0) rfl
  have d5 := (row_alloc hb (.cells #[.slice none 0 0, .slice none 0 0] 33)).cell (j := 0) rfl
  have HB : Hid (Below w.heap.size w (w.alloc (.cells #[.slice none 0 0, .slice none 0 0] 33))) := (Below.refl _ w).alloc (Nat.le_refl _) _
  have HR : Hid (Row (w.alloc (.cells #[.slice none 0 0, .slice none 0 0] 33)) w.heap.size [.slice none 0 0, .slice none 0 0] 33) := row_new w _ _
  have hsz0 : (w.alloc (.cells #[.slice none 0 0, .slice none 0 0] 33)).heap.size = w.heap.size + 1 := by simp
  clear hrow hL hg hb
  go_enter Yba.func8, Yba.ntmps8
  go_wp2
  generalize hwA : w.alloc (.cells #[.slice none 0 0, .slice none 0 0] 33) = wA at *
  clear hwA
  have e1 := fun n os => cell_grown (a := ⟨r, 0, none⟩) (by show r < wA.heap.size; omega) d1 n os
  have e2 := fun n os => cell_grown (a := ⟨b, 0, none⟩) (by show b < wA.heap.size; omega) d5 n os
  have e3 := fun n os => cell_grown (a := ⟨gL, 0, none⟩) (by show gL < wA.heap.size; omega) d2 n os
  have e4 := fun n os => cell_grown (a := ⟨gL, 1, none⟩) (by show gL < wA.heap.size; omega) d3 n os
  have e5 := last_calls0 x g 1 1 al d wA (by omega) d4 (by omega)
  have hmix := Yba.laysPdq.mixed
  go_quiet_grown (exact e5 _ _)
  have hs1 : StepO 0 wA (Go.Sort.grow (wA.drewN nq) osq) := (StepO.drew 0 wA nq).trans (stepO_grow 0 _ osq)
  have HB1 : Hid (Below w.heap.size w (Go.Sort.grow (wA.drewN nq) osq)) := HB.out.trans ((below_quiet (Below.refl _ wA)).trans (below_grow _ _ osq (by show w.heap.size ≤ wA.heap.size; omega)))
  have HR1 := hide (hs1.row (by decide) HR.out)
  show Exit.then _ _ _ _ (Go.Sort.grow (wA.drewN nq) osq)
  generalize Go.Sort.grow (wA.drewN nq) osq = wB at *
  have cR0 := HR1.out.cell (j := 0) rfl
  have cR1 := HR1.out.cell (j := 1) rfl
  have fR0 := HR1.out.frozen (j := 0)
  have fR1 := HR1.out.frozen (j := 1)
  have hRlt := HR1.out.lt
  clear e1 e2 e3 e4 e5 d1 d2 d3 d4 d5 HB hs1 HR hsz0 wA
  go_wp2
  obtain ⟨hs9, hb9⟩ := fin33 HR1.out (Nat.le_refl _) (.slice none 0 0) (.slice none 0 0)
  refine bodyPost_ret (v := .agg #[.slice none 0 0, .slice none 0 0]) (by simp [results, Yba.results8, go_sem, hRlt, cR0, cR1]) rfl ?_
  exact ⟨rfl, HB1.out.trans hb9⟩
end Go.Proofs.Ybulkbaje
