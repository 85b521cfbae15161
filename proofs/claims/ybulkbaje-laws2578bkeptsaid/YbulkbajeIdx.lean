/- zzs2578bidx (6), zzs2578bspan (15). -/
import Derived.Test.YbulkbajeSee
import Derived.Deep.MidRow
import Derived.Great.BuildSlice
namespace Go.Proofs.Ybulkbaje
open Go.RowKit
set_option linter.unusedSimpArgs false
set_option linter.unusedVariables false

def encN (i : Nat) : Value := .int .i64 (i : Int)
def idxOf (n0 : Nat) (R : List Int) : List Nat := R.map fun x => (x % (n0 : Int)).toNat
def idxTo (I : List Nat) (n k : Nat) : List Value := (I.take k).map encN ++ List.replicate (n - k) (.int .i64 0)

theorem idxTo_step (I : List Nat) (n k : Nat) (h : k < n) (hI : I.length = n) : (idxTo I n k).set k (encN (I.getD k 0)) = idxTo I n (k + 1) := by
  have hk : k < I.length := by omega
  have hl : ((I.take k).map encN).length = k := by simp; omega
  unfold idxTo
  rw [List.set_append_right _ _ (by omega), hl, Nat.sub_self, List.take_succ_eq_append_getElem hk, List.map_append, show n - k = (n - (k + 1)) + 1 by omega, List.replicate_succ, List.set_cons_zero]
  simp [hk]
theorem idxTo_cell (I : List Nat) (n k : Nat) (h : k < n) (hI : I.length = n) : (idxTo I n k)[k]? = some (.int .i64 0) := by
  have hl : ((I.take k).map encN).length = k := by simp; omega
  unfold idxTo
  rw [List.getElem?_append_right (by omega), hl, Nat.sub_self, List.getElem?_replicate, if_pos (by omega)]
theorem idxTo_full (I : List Nat) (n : Nat) (hI : I.length = n) : idxTo I n n = I.map encN := by
  unfold idxTo
  rw [List.take_of_length_le (by omega)]
  simp

theorem info3 : (Yba.prog.info? 3).map (fun i => (i.zero, i.size, i.bytes)) = some (some (.int .i64 0), 1, 8) := by kernel_rfl

/-- An owned row of places, as a slice of places. -/
theorem argN_of {w : World} {base g n cap : Nat} {I : List Nat} (h : w.ownsRow base 3 1 (.slice (some ⟨g, 0, none⟩) n cap) n (I.map encN)) (hI : I.length = n) : ArgN w (some ⟨g, 0, none⟩) n I := by
  refine ⟨hI, fun hl => ⟨g, 0, rfl, ?_, fun t ht => ?_⟩⟩
  · rcases h.2 with ⟨h', _⟩ | ⟨g', cap', cur, h', _, hg, _⟩
    · simp at h'
    · simp only [Value.slice.injEq, Option.some.injEq, Addr.mk.injEq, and_true, true_and] at h'
      obtain ⟨rfl, rfl⟩ := h'
      exact (Array.getElem?_eq_some_iff.1 hg).1
  · rw [Nat.zero_add, h.cellAt t (by omega)]
    simp [show t < I.length by omega, encN]

set_option maxRecDepth 100000 in
set_option maxHeartbeats 1000000 in
theorem idx_any (R : List Int) (a0 : Option Addr) (n0 c0 : Nat) (a1 : Option Addr) (n1 c1 : Nat) (w : World) (h1 : Arg .u8 w a1 n1 R) (p0 : 1 ≤ n0) (q0 : n0 ≤ 256) (q1 : n1 ≤ 256) :
    Calls Yba.prog 6 #[.slice a0 n0 c0, .slice a1 n1 c1] w fun e w' => e = .returned (.slice (some ⟨w.heap.size, 0, none⟩) n1 n1) ∧
      w'.ownsRow w.heap.size 3 1 (.slice (some ⟨w.heap.size, 0, none⟩) n1 n1) n1 ((idxOf n0 R).map encN) ∧ Below w.heap.size w w' := by
  obtain ⟨i0, hi, hz0, hz1, hz2⟩ := info_parts info3
  have hby : i0.bytes * n1 ≤ 281474976710656 := by rw [hz2]; omega
  obtain ⟨hL, hd, hw⟩ := h1
  have HL : Hid (R.length = n1) := hL
  have HI : Hid ((idxOf n0 R).length = n1) := by show (idxOf n0 R).length = n1; rw [idxOf, List.length_map]; exact hL
  have HD := hide hd
  have HW := hide hw
  clear hL hd hw
  go_enter Yba.func6, Yba.ntmps6
  go_wp2_with (refine wpList_make_full _ rfl _ _ 25 rfl w.heap.size 3 i0 _ 1 Yba.underlying25 hi hz0 hz1 .i64 .i64 _ _ n1 rfl rfl rfl rfl hby (by unfold maxLen; omega) (Nat.le_refl _) ?_; intro w1 hown1 hgrow1)
  have hown0 : w1.ownsRow w.heap.size 3 1 (.slice (some ⟨w.heap.size, 0, none⟩) n1 n1) n1 (idxTo (idxOf n0 R) n1 0) := by
    have e : (madeCells (Value.int IntKind.i64 0).cells (n1 * 1)).toList = idxTo (idxOf n0 R) n1 0 := by
      rw [show (Value.int IntKind.i64 0).cells = #[.int .i64 0] from rfl, toList_madeCells_one]
      simp [idxTo]
    rw [← e]
    exact hown1
  have hb1 := below_made (Below.refl w.heap.size w) hgrow1 (Nat.le_refl _)
  clear hown1 hgrow1
  go_loopw [13] (fun v wr => ∃ k : Nat, v = .int .i64 k ∧ k ≤ n1 ∧ wr.ownsRow w.heap.size 3 1 (.slice (some ⟨w.heap.size, 0, none⟩) n1 n1) n1 (idxTo (idxOf n0 R) n1 k) ∧ Below w.heap.size w wr) (fun v _ => n1 - (intOf v).toNat)
  case atStart => exact ⟨0, rfl, Nat.zero_le _, hown0, hb1⟩
  case round =>
    obtain ⟨k, rfl, hk, hown, hbel⟩ := hrel
    clear hown0 hb1
    by_cases hkn : k < n1
    · obtain ⟨b, off, rfl, hlt, hc⟩ := HD.out (by omega)
      have hck := (hbel.cell (p := ⟨b, off + k, none⟩) hlt).trans (hc k hkn)
      have hx := bounds_u8 (HW.out k)
      have hcell := (hown.cellAt k (by omega)).trans (idxTo_cell _ _ _ hkn HI.out)
      have hfr := hown.frozenAt k
      have HS : Hid (∀ u, u = .int .i64 (R.getD k 0 % (n0 : Int)) → (wr.setCell ⟨w.heap.size, k, none⟩ u).ownsRow w.heap.size 3 1 (.slice (some ⟨w.heap.size, 0, none⟩) n1 n1) n1 (idxTo (idxOf n0 R) n1 (k + 1)) ∧ wr.grownBy (wr.setCell ⟨w.heap.size, k, none⟩ u) (some w.heap.size)) := fun u hu => by
        have e : u = encN ((idxOf n0 R).getD k 0) := by
          rw [hu]
          unfold encN idxOf
          have hkR : k < R.length := by rw [HL.out]; exact hkn
          have hnn : 0 ≤ R.getD k 0 % (n0 : Int) := Int.emod_nonneg _ (by omega)
          simp [hkR] at hnn ⊢
          omega
        rw [e, ← idxTo_step _ _ _ hkn HI.out]
        exact hown.stored k _
      clear hc hown
      generalize R.getD k 0 = x at hck hx HS
      have hkz : (k : Int) < (n1 : Int) := by omega
      go_wp2
      obtain ⟨o2, g2⟩ := HS.out _ rfl
      have hbel2 := below_own hbel g2 (Nat.le_refl _) hbel.size
      clear HS hcell hck hfr g2
      go_roundw
      case rel => exact ⟨k + 1, by go_num, by omega, o2, hbel2⟩
      case measure => simp [intOf]; omega
    · obtain rfl : k = n1 := by omega
      rw [idxTo_full _ _ HI.out] at hown
      go_wp2
      go_ret
      exact ⟨rfl, hown, hbel⟩

theorem info57 : (Yba.prog.info? 57).map (fun i => (i.zero, i.size, i.bytes)) = some (some (.agg #[.int .u64 0, .int .u64 0]), 2, 16) := by kernel_rfl

set_option maxRecDepth 100000 in
theorem span_any (v : Int) (w : World) (h0 : 0 ≤ v) (h1 : v ≤ 65535) :
    Calls Yba.prog 15 #[.int .u16 v] w fun e w' => e = .returned (.slice (some ⟨w.heap.size, 0, none⟩) 1 1) ∧ w' = w.alloc (.cells #[.int .u64 (spanOf v).1, .int .u64 (spanOf v).2] 57) := by
  go_enter Yba.func15, Yba.ntmps15
  go_wp2
  go_ret
  exact ⟨rfl, rfl⟩
end Go.Proofs.Ybulkbaje
