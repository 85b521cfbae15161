/- LawS2583BRotate (function 7): the walk. -/
import Derived.Test.YbulkbalwColumn
namespace Go.Proofs.Ybulkbalw
open Go.RowKit
set_option linter.unusedSimpArgs false
set_option linter.unusedVariables false

/-- A matrix of the call's own: what its columns hold; they may be written. -/
def Mat (w : World) (g : Nat) (f : Nat → Nat) : Prop := ∀ j, j < 32 → w.cell? ⟨g, j, none⟩ = some (.int .u32 ((f j : Nat) : Int)) ∧ w.frozen? ⟨g, j, none⟩ = false

theorem mat_set {w : World} {g k : Nat} {f f' : Nat → Nat} (h : Mat w g f) (hk : k < 32) (z : Nat) (hz : f' k = z) (ho : ∀ j, j < 32 → j ≠ k → f' j = f j) : Mat (w.setCell ⟨g, k, none⟩ (.int .u32 (z : Int))) g f' := by
  intro j hj
  refine ⟨?_, by rw [World.frozen?_setCell]; exact (h j hj).2⟩
  by_cases e : j = k
  · subst e
    rw [World.cell?_setCell_same (h := (h j hj).1), hz]
  · rw [World.cell?_setCell_other (h := by intro h; injection h with _ h2 _; exact e h2.symm), ho j hj e]
    exact (h j hj).1
theorem mat_other {w : World} {g g' k : Nat} {f : Nat → Nat} {v : Value} (h : Mat w g f) (hne : g ≠ g') : Mat (w.setCell ⟨g', k, none⟩ v) g f := by
  intro j hj
  refine ⟨?_, by rw [World.frozen?_setCell]; exact (h j hj).2⟩
  rw [World.cell?_setCell_other (h := by intro h; injection h with h1 _ _; exact hne h1.symm)]
  exact (h j hj).1

theorem mat_zero {w : World} {g : Nat} (h : w.heap[g]? = some (.cells (Array.replicate 32 (.int .u32 0)) 37 (0, 0))) {f : Nat → Nat} (hf : ∀ j, f j = 0) : Mat w g f := by
  intro j hj
  refine ⟨?_, ?_⟩
  · rw [hf]
    simp only [World.cell?, h]
    simp [hj]
  · simp [World.frozen?, h]
theorem below_stores {B k : Nat} {w wr : World} {v v' : Value} (h : Below B w wr) : Below B w ((wr.setCell ⟨B, k, none⟩ v).setCell ⟨B + 1, k, none⟩ v') :=
  (h.setCell (Nat.le_refl _) _).setCell (Nat.le_succ _) _

theorem mod_small {n : Nat} (h : n < 4294967296) : ((n : Int) % 4294967296) = (n : Int) := by omega

theorem or_two {v : Nat} (hv : v < 4294967296) : bits .or .u32 ((v : Int) * 2 % 4294967296) ((v : Int) / 2147483648) = ((v * 2 % 4294967296 ||| v / 2147483648 : Nat) : Int) := by
  rw [← u32_or_nat (v * 2 % 4294967296) (v / 2147483648) (Nat.mod_lt _ (by decide)) (by omega)]
  congr 1
theorem ret_bool {a b : Bool} (h : a = b) : Ending.returned (.bool a) = .returned (.bool b) := by rw [h]

def idTo (k j : Nat) : Nat := if j < k then 2 ^ j else 0
def rotTo (k j : Nat) : Nat := if j < k then 2 ^ ((j + 1) % 32) else 0

set_option maxRecDepth 100000 in
set_option maxHeartbeats 1000000 in
theorem rotate_any (v : Nat) (hv : v < 4294967296) (w : World) :
    Calls Yba.prog 7 #[.int .u32 (v : Int)] w fun e w' => e = .returned (.bool true) ∧ Below w.heap.size w w' := by
  go_enter Yba.func7, Yba.ntmps7
  go_wp2
  go_loopw [5] (fun i wr => ∃ k : Nat, k ≤ 32 ∧ i = .int .i64 k ∧ Mat wr w.heap.size (idTo k) ∧ Mat wr (w.heap.size + 1) (rotTo k) ∧ Below w.heap.size w wr) (fun i _ => 32 - (intOf i).toNat)
  case atStart =>
    refine ⟨0, by omega, rfl, ?_, ?_, ((Below.refl _ _).alloc (Nat.le_refl _) _).alloc (by simp) _⟩
    · refine mat_zero ?_ (fun j => by simp [idTo])
      have := heap_alloc_new w (.cells (Array.replicate 32 (.int .u32 0)) 37)
      exact (Below.heap_alloc _ _ w.heap.size (by simp)).trans this
    · exact mat_zero (heap_new2 w _ _) (fun j => by simp [rotTo])
  case round =>
    obtain ⟨k, hk, rfl, hI, hR, hbel⟩ := hrel
    by_cases hlt : k < 32
    · have c1 := hI k hlt
      have c2 := hR k hlt
      obtain ⟨V, hV⟩ : ∃ V : Nat, V = 2 ^ k := ⟨_, rfl⟩
      have hV32 : V < 4294967296 := by rw [hV]; exact Nat.pow_lt_pow_right (by decide) hlt
      have es : IntKind.u32.wrap (2 ^ k) = (V : Int) := by
        rw [IntKind.wrap_u32', show ((2 : Int) ^ k) = (V : Int) by rw [hV]; simp]
        omega
      have HV := hide hV
      clear hV
      obtain ⟨c1, f1⟩ := c1
      obtain ⟨c2, f2⟩ := c2
      have HI := hide hI
      have HR := hide hR
      clear hI hR
      go_wp2
      go_roundw
      case rel =>
        have ez : ((2 : Int) ^ ((k + 1) % 32) % 4294967296) = ((2 ^ ((k + 1) % 32) : Nat) : Int) := by
          have hlt2 : 2 ^ ((k + 1) % 32) < 4294967296 := Nat.pow_lt_pow_right (n := 32) (by decide) (Nat.mod_lt _ (by decide))
          have e2 : ((2 : Int) ^ ((k + 1) % 32)) = ((2 ^ ((k + 1) % 32) : Nat) : Int) := by simp
          rw [e2]
          exact mod_small hlt2
        rw [ez]
        refine ⟨k + 1, by omega, by go_num, mat_other (mat_set HI.out hlt V (by rw [HV.out]; simp [idTo]) (fun j _ hj => by simp only [idTo]; congr 1; simp; omega)) (by omega), mat_set (mat_other HR.out (by omega)) hlt _ (by simp [rotTo]) (fun j _ hj => by simp only [rotTo]; congr 1; simp; omega), below_stores hbel⟩
      case measure => simp [intOf]; omega
    · obtain rfl : k = 32 := by omega
      have HA := hide (acc_id hv)
      have HB := hide (acc_rot hv)
      have CI := hide (fun j (hj : j < 32) => show wr.cell? ⟨w.heap.size, j, none⟩ = some (.int .u32 (((fun i => 2 ^ i) j : Nat) : Int)) by have := (hI j hj).1; rwa [idTo, if_pos hj] at this)
      have CR := hide (fun j (hj : j < 32) => show wr.cell? ⟨w.heap.size + 1, j, none⟩ = some (.int .u32 (((fun i => 2 ^ ((i + 1) % 32)) j : Nat) : Int)) by have := (hR j hj).1; rwa [rotTo, if_pos hj] at this)
      clear hI hR
      go_wp2_with fail
      refine (apply_any (fun i => 2 ^ i) v w.heap.size _ hv (fun j hj => Nat.pow_lt_pow_right (by decide) hj) CI.out).mono ?_
      rintro e w' ⟨rfl, rfl⟩
      rw [HA.out]
      go_wp2_with fail
      refine (apply_any (fun i => 2 ^ ((i + 1) % 32)) v (w.heap.size + 1) _ hv (fun j hj => Nat.pow_lt_pow_right (n := 32) (by decide) (Nat.mod_lt _ (by decide))) CR.out).mono ?_
      rintro e w' ⟨rfl, rfl⟩
      rw [HB.out]
      go_wp2
      go_ret
      exact ⟨ret_bool (by rw [or_two hv]; simp), hbel⟩
end Go.Proofs.Ybulkbalw
