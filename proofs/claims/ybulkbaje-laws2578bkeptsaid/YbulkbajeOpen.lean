/- What comes in, opened: a slice of slices of uint16, a slice of bytes. -/
import Derived.Test.YbulkbajeBase
import Derived.Deep.Matrix
import Derived.ChangeSlices
import Derived.ChangeOld
import Derived.ProofKit
namespace Go.Proofs.Ybulkbaje
open Go.ChangeShapes Go.WideShapes Go.ChangeAt Go.RowKit
set_option linter.unusedVariables false

theorem maxLen_le {n : Nat} (h : n ≤ maxLen) : n ≤ 9223372036854775807 := by unfold maxLen at h; omega
theorem wf_take {k : IntKind} {zs : List Int} {len : Nat} (hwf : ∀ n ∈ zs, (Lit.int k n).wf = true) (hz : (Lit.int k 0).wf = true) (t : Nat) : (Lit.int k ((zs.take len).getD t 0)).wf = true := by
  by_cases ht : t < (zs.take len).length
  · have : (zs.take len).getD t 0 = (zs.take len)[t] := by rw [List.getD_eq_getElem?_getD, List.getElem?_eq_getElem ht]; rfl
    rw [this]
    exact hwf _ (List.mem_of_mem_take (List.getElem_mem ht))
  · have : (zs.take len).getD t 0 = 0 := by rw [List.getD_eq_getElem?_getD, List.getElem?_eq_none (by omega)]; rfl
    rw [this]
    exact hz
theorem bytes_of {H : Type} {enc : TypeId × Value → H} {w : World} {base : Nat} {held : Bool} {fuel : Nat} {a : Option Addr} {len cap : Nat} {x : DataW H × List MemPlace}
    (h : DataW.trod enc Yba.prog w base (fun _ => true) held fuel 23 (Value.slice a len cap).cells.toList = some x) : ∃ R, Arg .u8 w a len R ∧ len ≤ maxLen := by
  rcases open_ints Yba.underlying23 Yba.underlying5 (by kernel_rfl) h with ⟨hcs, _⟩ | ⟨x, l, c, zs, hcs, _, hl, hm, hz, _, hcell, hwf⟩
  · simp [Value.cells] at hcs
    obtain ⟨rfl, rfl, rfl⟩ := hcs
    exact ⟨[], ⟨rfl, fun h => absurd h (by omega), fun t => by simp; decide⟩, by unfold maxLen; omega⟩
  · simp [Value.cells] at hcs
    obtain ⟨rfl, rfl, rfl⟩ := hcs
    simp only [if_true] at hz
    refine ⟨zs.take len, ⟨by rw [List.length_take]; omega, fun h => ?_, wf_take hwf (by decide)⟩, by omega⟩
    obtain ⟨b, off, rfl, hc⟩ := ints_at hcell (by omega)
    refine ⟨b, off, rfl, World.block_lt_of_cell? w _ (hc 0 (by omega)), fun t ht => ?_⟩
    rw [hc t (by omega)]
    simp [ht]
theorem dat_of {H : Type} {enc : TypeId × Value → H} {w : World} {base : Nat} {held : Bool} {fuel : Nat} {a : Option Addr} {len cap : Nat} {x : DataW H × List MemPlace}
    (h : DataW.trod enc Yba.prog w base (fun _ => true) held fuel 22 (Value.slice a len cap).cells.toList = some x) : ∃ L, Dat w a len L ∧ len ≤ maxLen ∧ ∀ i, i < len → (L.getD i []).length ≤ maxLen := by
  rcases Go.Deep.open_int_rows Yba.underlying22 Yba.underlying49 Yba.underlying50 (by kernel_rfl) (by kernel_rfl) h with ⟨hcs, _⟩ | ⟨a0, l, c, A, Ln, C, Z, hcs, _, hl, hm, _, hr⟩
  · simp [Value.cells] at hcs
    obtain ⟨rfl, rfl, rfl⟩ := hcs
    exact ⟨[], ⟨rfl, fun h => absurd h (by omega)⟩, by unfold maxLen; omega, fun i hi => absurd hi (by omega)⟩
  · simp [Value.cells] at hcs
    obtain ⟨rfl, rfl, rfl⟩ := hcs
    have hget : ∀ i, i < len → ((List.range len).map fun r => (Z r).take (Ln r)).getD i [] = (Z i).take (Ln i) := fun i hi => by simp [hi]
    refine ⟨(List.range len).map fun r => (Z r).take (Ln r), ⟨by simp, fun hlen => ?_⟩, by omega, fun i hi => ?_⟩
    · obtain ⟨b, off, spot⟩ := a0
      have hspot : spot = none := by simpa [Addr.add] using World.cell?_spot (hr 0 (by omega)).1
      subst hspot
      refine ⟨b, off, rfl, World.block_lt_of_cell? w _ (hr 0 (by omega)).1, fun i hi => ?_⟩
      have hi' := hr i (by omega)
      refine ⟨A i, Ln i, C i, by rw [← Go.WideShapes.add_plain]; exact hi'.1, ?_⟩
      rw [hget i hi]
      obtain ⟨_, e1, e2, e3, e4, e5, e6⟩ := hi'
      refine ⟨by rw [List.length_take]; omega, fun hpos => ?_, wf_take e4 (by decide)⟩
      cases hA : A i with
      | none => have := e5 hA; omega
      | some a' =>
        obtain ⟨_, hcell⟩ := e6 a' hA
        obtain ⟨b', off', rfl, hc⟩ := ints_at (zs := Z i) (a := a') (by rw [e3]; exact hcell) (by omega)
        exact ⟨b', off', rfl, World.block_lt_of_cell? w _ (hc 0 (by omega)), fun t ht => by rw [hc t (by omega)]; simp [ht]⟩
    · rw [hget i hi, List.length_take]
      have := hr i (by omega)
      omega
end Go.Proofs.Ybulkbaje
