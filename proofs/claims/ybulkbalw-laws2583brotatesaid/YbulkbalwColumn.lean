/- LawS2583BColumn (function 6): the walk. -/
import Derived.Test.YbulkbalwApply
import Derived.Deep.MidRow
import Derived.Deep.QuietTactic
import Derived.BigQuiet
import Derived.Great.BuildSlice
namespace Go.Proofs.Ybulkbalw
open Go.RowKit
set_option linter.unusedSimpArgs false
set_option linter.unusedVariables false

theorem size36 : (Yba.prog.info? 36).map (·.size) = some 32 := by kernel_rfl
theorem size37 : (Yba.prog.info? 37).map (·.size) = some 32 := by kernel_rfl
theorem heap_new2 (w : World) (o o' : Obj) : ((w.alloc o).alloc o').heap[w.heap.size + 1]? = some o' := by
  have := heap_alloc_new (w.alloc o) o'
  simpa using this
theorem hide {p : Prop} (h : p) : Hid p := h

/-- A store of a whole matrix into a block of its own: the block, and nothing else, has turned. -/
theorem wpList_store_own {ops : Array Oper} {rest : List Oper} {o : Oper} {a : Act} {w : World} {Q : Exit → Act → World → Prop} (hgd : o.guard = none) (x y : Operand) (ho : o.op = .store 37 x y)
    (g : Nat) (cs : List Value) (hl : cs.length = 32) (h1 : ∀ v ∈ cs, v.oneCell' = true) (hx : a.eval x = .pointer (some ⟨g, 0, none⟩)) (hy : a.eval y = .agg cs.toArray)
    (old : Array Value) (hg : w.heap[g]? = some (.cells old 37 (0, 0))) (hold : old.size = 32)
    (h : ∀ w', w'.heap[g]? = some (.cells cs.toArray 37 (0, 0)) → w.grownBy w' (some g) → wpList Yba.prog ops Q rest (a.put o.dst undef) w') : wpList Yba.prog ops Q (o :: rest) a w :=
  wpList_store_row hgd 37 x y ho g cs.toArray hx hy 37 old hg (by rw [size37]; simp [hl]) (by simp [hl, hold]) (all_oneCell_toArray h1)
    (h _ (setRow_heap w g old _ 37 _ hg) ⟨rfl, rfl, rfl, by simp, fun k _ hk => setRow_other w g k _ (fun e => hk (by simp [e]))⟩)
theorem block_cell {w : World} {g t : Nat} {cs : List Value} (h : w.heap[g]? = some (.cells cs.toArray t (0, 0))) : w.rangeAt g 0 cs := fun j v hj => by
  simp only [Nat.zero_add, World.cell?, h]
  simpa using hj

set_option maxRecDepth 100000 in
set_option maxHeartbeats 1000000 in
theorem column_any (m : Nat → Nat) (cs : List Value) (k : Int) (w : World) (hm : ∀ j, j < 32 → m j < 4294967296) (hl : cs.length = 32) (hcs : ∀ j, j < 32 → cs[j]? = some (.int .u32 (m j : Nat))) (h1 : ∀ v ∈ cs, v.oneCell' = true) (hk0 : 0 ≤ k) (hk1 : k ≤ 255) :
    Calls Yba.prog 6 #[.agg cs.toArray, .int .u8 k] w fun e w' => e = .returned (.bool true) ∧ Below w.heap.size w w' := by
  have rB : (w.alloc (.cells cs.toArray 36)).rangeAt w.heap.size 0 cs := block_cell (heap_alloc_new w _)
  obtain ⟨i, ei, hi⟩ : ∃ i : Nat, k % 32 = (i : Int) ∧ i < 32 := ⟨(k % 32).toNat, by omega, by omega⟩
  have HM := hide hm
  have HC := hide hcs
  clear hm hcs
  go_enter Yba.func6, Yba.ntmps6
  go_wp2_with (first | (refine wpList_load_mid rfl 36 (.tmp 2) rfl _ _ rfl cs _ rB Yba.underlying36 rfl (by rw [size36, hl]) ?_) | (refine wpList_store_own rfl (.tmp 5) (.tmp 7) rfl (w.heap.size + 1) cs hl h1 rfl rfl _ (heap_new2 _ _ _) rfl ?_; intro w5 hb5 hg5))
  have rA := block_cell hb5
  have rC : w5.rangeAt w.heap.size 0 cs := fun j v hj => by rw [hg5.cell (World.rangeAt_alloc rB _ j v hj) (by simp)]
  have cA : ∀ j, j < 32 → w5.cell? ⟨w.heap.size + 1, j, none⟩ = some (.int .u32 (m j : Nat)) := fun j hj => by have := rA j _ (HC.out j hj); rwa [Nat.zero_add] at this
  have cC : w5.cell? ⟨w.heap.size, i, none⟩ = some (.int .u32 (m i : Nat)) := by have := rC i _ (HC.out i hi); rwa [Nat.zero_add] at this
  have hi0 : (0 : Int) ≤ (i : Int) := by omega
  have hi1 : (i : Int) < 32 := by omega
  have CA := hide cA
  have hb6 : Below w.heap.size w w5 := Below.grown (((Below.refl w.heap.size w).alloc (Nat.le_refl _) _).alloc (by simp) _) hg5 (by simp; omega) (fun k hk => by injection hk with hk; omega)
  clear cA rA rC rB hb5 hg5
  obtain ⟨V, hV⟩ : ∃ V : Nat, V = 2 ^ i := ⟨_, rfl⟩
  have hV32 : V < 4294967296 := by rw [hV]; exact Nat.pow_lt_pow_right (by decide) hi
  have eu : IntKind.u64.wrap (i : Int) = (i : Int) := by rw [IntKind.wrap_u64]; omega
  have es : IntKind.u32.wrap (2 ^ i) = (V : Int) := by
    rw [IntKind.wrap_u32', show ((2 : Int) ^ i) = (V : Int) by rw [hV]; simp]
    omega
  have HV := hide hV
  clear hV
  have ea : acc m V 32 = m i := by rw [HV.out, acc_bit, if_pos hi]
  go_quiet ((go_at_call 9; exact Calls.quiet_of_same (apply_any m V (w.heap.size + 1) _ hV32 HM.out (by exact CA.out))))
  go_wp2
  go_ret
  exact ⟨by simp, ⟨hb6.os, hb6.tape, hb6.output, hb6.size, hb6.block⟩⟩
end Go.Proofs.Ybulkbalw
