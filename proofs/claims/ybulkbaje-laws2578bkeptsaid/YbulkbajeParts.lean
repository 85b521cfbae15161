/- partsOf (18), last (16). -/
import Derived.Test.YbulkbajeListed
namespace Go.Proofs.Ybulkbaje
open Go.RowKit
set_option linter.unusedSimpArgs false
set_option linter.unusedVariables false

def PartsEnd (Ss : List (List (Int × Int))) (w : World) (e : Ending) (w' : World) : Prop :=
  ∃ a m c U, e = .returned (.agg #[.slice none 0 0, .slice a m c]) ∧ m ≤ 100000 ∧ ArgT w' a m U ∧ (∀ x, hasB U x = hasB Ss.flatten x) ∧ Below w.heap.size w w'

set_option maxRecDepth 100000 in
set_option maxHeartbeats 4000000 in
theorem parts_any (Ss : List (List (Int × Int))) (v : Value) (w : World) (h : Rests w v Ss) (hpos : 0 < Ss.length) (hN : Ss.length ≤ 70000) (hSm : Sm Ss.flatten) (hF : Ss.flatten.length ≤ 100000) :
    Calls Yba.prog 18 #[v] w fun e w' => PartsEnd Ss w e w' := by
  have hlist := listed_any Ss v (w.alloc (.cells #[.slice none 0 0, .slice none 0 0] 33)) (h.step (Step.alloc 33 _ _) (by decide) (by decide) (by decide)) hpos hN hSm hF
  obtain ⟨g, c, us, more, rfl, hr, hlen, hcm, hv⟩ := h
  obtain ⟨u0, eu0, h0, s0, rfl, r1, r2⟩ := hv.2 0 hpos
  have c0 : w.cell? ⟨g, 0, none⟩ = some (.slice (some ⟨h0, 0, none⟩) 1 1) := hr.cell (by rw [List.getElem?_append_left (by rw [hv.1]; exact hpos)]; exact eu0)
  have hlt := hr.lt
  clear hr hlen hv r1 r2 eu0
  have hp : (0 : Int) < (Ss.length : Int) := by omega
  have hp2 : 0 < Ss.length := hpos
  go_enter Yba.func18, Yba.ntmps18
  go_wp2_with (go_at_call 21; refine hlist.mono ?_; rintro e w5 ⟨a, m, c5, U, rfl, hm, hA, hU, hb⟩; have hrow : Row w5 w.heap.size [.slice none 0 0, .slice none 0 0] 33 := (row_new w [.slice none 0 0, .slice none 0 0] 33).below hb; have q0 := hrow.cell (j := 0) rfl; have q1 := hrow.cell (j := 1) rfl; have q2 := hrow.frozen (j := 0); have q3 := hrow.frozen (j := 1))
  have hlt5 := hrow.lt
  have hbw : Below w.heap.size w w5 := (Below.refl _ w |>.alloc (Nat.le_refl _) _).trans (hb.mono (by simp))
  have hg9 := (setCells_block w.heap.size 33 [.slice none 0 0, .slice a m c5] 0 _ w5 hrow).2
  refine bodyPost_ret (v := .agg #[.slice none 0 0, .slice a m c5]) (by simp [results, Yba.results18, go_sem, q0, q1, hlt5]) rfl ?_
  exact ⟨a, m, c5, U, rfl, hm, hA.step (Step.of_grown (T := 33) hg9 (fun k hk => by injection hk with hk; subst hk; exact ⟨_, hrow⟩)) (by decide), hU, below_own hbw hg9 (Nat.le_refl _) hbw.size⟩

/-! ### last (16): whether the first of the rests is empty -/
set_option maxHeartbeats 1000000 in
theorem last_any (x : Value) (g n c : Nat) (a : Option Addr) (q d : Nat) (w : World) (hlt : g < w.heap.size) (hg : w.cell? ⟨g, 0, none⟩ = some (.slice a q d)) (hn : 0 < n) :
    Calls Yba.prog 16 #[.agg #[x, .slice (some ⟨g, 0, none⟩) n c]] w fun e w' => e = .returned (.bool (decide ((q : Int) = 0))) ∧ ∃ o, w' = w.alloc (.cells o 41) := by
  have hp : (0 : Int) < (n : Int) := by omega
  go_enter Yba.func16, Yba.ntmps16
  go_wp2
  go_ret
  exact ⟨rfl, _, rfl⟩
end Go.Proofs.Ybulkbaje
