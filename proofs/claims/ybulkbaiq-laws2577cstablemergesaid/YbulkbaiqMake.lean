/- zzs2577cbuild (16): a row of edits in ascending order. -/
import Derived.Test.YbulkbaiqInter
import Derived.Test.YbulkbaiqStable
namespace Go.Proofs.Ybulkbaiq
open Go.RowKit
set_option linter.unusedSimpArgs false
set_option linter.unusedVariables false

def tagOf (neg : Bool) (i : Nat) : Int := if neg then -1 - (i : Int) else (i : Int)
/-- What the loop lays: sums from c on, tags from i on. -/
def bld (neg : Bool) : Int → Nat → List Int → Row
  | _, _, [] => []
  | c, i, d :: ds => (c + d, tagOf neg i) :: bld neg (c + d) (i + 1) ds
def csum : Int → List Int → Int
  | c, [] => c
  | c, d :: ds => csum (c + d) ds
theorem bld_length (neg : Bool) : ∀ (c : Int) (i : Nat) (ds : List Int), (bld neg c i ds).length = ds.length
  | _, _, [] => rfl
  | c, i, d :: ds => by simp [bld, bld_length neg (c + d) (i + 1) ds]
theorem csum_snoc : ∀ (c : Int) (ds : List Int) (d : Int), csum c (ds ++ [d]) = csum c ds + d
  | _, [], _ => rfl
  | c, e :: ds, d => by simp only [List.cons_append, csum, csum_snoc (c + e) ds d]
theorem bld_snoc (neg : Bool) : ∀ (c : Int) (i : Nat) (ds : List Int) (d : Int), bld neg c i (ds ++ [d]) = bld neg c i ds ++ [(csum c ds + d, tagOf neg (i + ds.length))]
  | c, i, [], d => rfl
  | c, i, e :: ds, d => by
    simp only [List.cons_append, bld, csum, bld_snoc neg (c + e) (i + 1) ds d, List.length_cons]
    rw [show i + 1 + ds.length = i + (ds.length + 1) by omega]
theorem bld_ge (neg : Bool) : ∀ (c : Int) (i : Nat) (ds : List Int), (∀ d ∈ ds, 0 ≤ d) → ∀ e ∈ bld neg c i ds, c ≤ e.1
  | _, _, [], _, e, he => by simp [bld] at he
  | c, i, d :: ds, h, e, he => by
    have hd := h d (by simp)
    rcases List.mem_cons.1 he with rfl | he
    · show c ≤ c + d
      omega
    · have := bld_ge neg (c + d) (i + 1) ds (fun x hx => h x (by simp [hx])) e he
      omega
theorem bld_sorted (neg : Bool) : ∀ (c : Int) (i : Nat) (ds : List Int), (∀ d ∈ ds, 0 ≤ d) → Sorted (bld neg c i ds)
  | _, _, [], _ => List.Pairwise.nil
  | c, i, d :: ds, h => List.pairwise_cons.2 ⟨fun e he => bld_ge neg (c + d) (i + 1) ds (fun x hx => h x (by simp [hx])) e he, bld_sorted neg (c + d) (i + 1) ds (fun x hx => h x (by simp [hx]))⟩
theorem csum_bound : ∀ (c : Int) (ds : List Int), (∀ d ∈ ds, 0 ≤ d ∧ d ≤ 255) → c ≤ csum c ds ∧ csum c ds ≤ c + 255 * ds.length
  | c, [], _ => by simp [csum]
  | c, d :: ds, h => by
    have hd := h d (by simp)
    have := csum_bound (c + d) ds (fun x hx => h x (by simp [hx]))
    simp only [csum, List.length_cons]
    omega
theorem take_bld (neg : Bool) (c : Int) (ds : List Int) (k : Nat) (h : k < ds.length) : bld neg c 0 (ds.take (k + 1)) = bld neg c 0 (ds.take k) ++ [(csum c (ds.take k) + ds.getD k 0, tagOf neg k)] ∧ csum c (ds.take (k + 1)) = csum c (ds.take k) + ds.getD k 0 := by
  have e : ds.take (k + 1) = ds.take k ++ [ds.getD k 0] := by
    rw [List.take_succ_eq_append_getElem h]
    simp [h]
  rw [e, bld_snoc, csum_snoc, List.length_take, Nat.min_eq_left (by omega), Nat.zero_add]
  exact ⟨rfl, rfl⟩

set_option maxRecDepth 100000 in
set_option maxHeartbeats 2000000 in
theorem build_any (neg : Bool) (ds : List Int) (c : Int) (a0 : Option Addr) (len0 cap0 : Nat) (w : World) (h0 : Arg .u8 w a0 len0 ds) (hl0 : len0 ≤ 1024) (hc1 : -128 ≤ c) (hc2 : c ≤ 127) :
    Calls Yba.prog 16 #[.slice a0 len0 cap0, .int .i8 c, .bool neg] w fun e w' => e = .returned (.slice (some ⟨w.heap.size, 0, none⟩) len0 len0) ∧
      w'.ownsRow w.heap.size 68 33 (.slice (some ⟨w.heap.size, 0, none⟩) len0 len0) len0 (flat (bld neg c 0 ds)) ∧ Below w.heap.size w w' := by
  obtain ⟨i0, hi, hz0, hz1, hz2⟩ := info_parts info68
  have hby0 : i0.bytes * len0 ≤ 281474976710656 := by rw [hz2]; omega
  obtain ⟨hfa, hca, hwa⟩ := h0
  have HFA : Hid (ds.length = len0) := hfa
  have HCA := hide hca
  have HWA := hide hwa
  have HBD := hide (fun d (hd : d ∈ ds) => show 0 ≤ d ∧ d ≤ 255 by
    obtain ⟨k, hk, rfl⟩ := List.getElem_of_mem hd
    have := bounds_u8 (hwa k)
    simpa [hk] using this)
  clear hfa hca hwa
  go_enter Yba.func16, Yba.ntmps16
  go_wp2_with (refine wpList_make_own _ rfl _ _ 60 rfl w.heap.size 68 i0 _ 33 Yba.underlying60 hi hz0 hz1 .i64 .i64 _ len0 rfl rfl rfl hby0 (by unfold maxLen; omega) (Nat.le_refl _) ?_; intro w1 hown1 hgrow1)
  have hb1 : Below w.heap.size w w1 := (Below.refl _ _).grown hgrow1 (Nat.le_refl _) (fun k hk => by cases hk)
  go_loopw [7, 8, 19] (fun v cu i wr => ∃ k : Nat, k ≤ len0 ∧ i = .int .i64 k ∧ v = .slice (some ⟨w.heap.size, 0, none⟩) k len0 ∧ cu = .int .i64 (csum c (ds.take k)) ∧
      wr.ownsRow w.heap.size 68 33 (.slice (some ⟨w.heap.size, 0, none⟩) k len0) k (flat (bld neg c 0 (ds.take k))) ∧ Below w.heap.size w wr) (fun _ _ i _ => len0 - (intOf i).toNat)
  case atStart => exact ⟨0, Nat.zero_le _, rfl, rfl, rfl, hown1, hb1⟩
  case round =>
    obtain ⟨k, hk, rfl, rfl, rfl, hown, hbel⟩ := hrel
    clear hown1 hgrow1 hb1
    have hcs := csum_bound c (ds.take k) (fun d hd => HBD.out d (List.mem_of_mem_take hd))
    have hcl : (ds.take k).length ≤ k := List.length_take_le _ _
    by_cases hlt : k < len0
    · obtain ⟨b, off, rfl, hbw, hcell⟩ := HCA.out (by omega)
      have hf := bounds_u8 (HWA.out k)
      have hc := (hbel.cell (p := ⟨b, off + k, none⟩) hbw).trans (hcell k hlt)
      have ht := take_bld neg c ds k (by rw [HFA.out]; exact hlt)
      have HT := hide ht.1
      have HU := hide ht.2
      clear hcell ht
      generalize ds.getD k 0 = f at hf hc HT HU
      generalize csum c (ds.take k) = S at hcs HT HU ⊢
      cases neg
      · go_wp2_with (first | (refine wpList_edit rfl (.tmp 33) (.tmp 34) rfl (S + f) k rfl rfl ?_) | (refine wpList_single rfl (.tmp 35) rfl (cellsE (S + f, (k : Int))) rfl rfl ?_) | (at_builtin; refine wpList_append_fits _ rfl (.tmp 32) (.tmp 36) 60 rfl w.heap.size 68 i0 33 Yba.underlying60 hi hz1 w.heap.size k len0 _ rfl (hown.alloc _) ⟨_, 0, none⟩ 1 1 (cellsE (S + f, (k : Int))) rfl rfl (single_cells _ _) (cellsE_one _) (by omega) ?_; intro w2 hown2 hgrow2))
        have hbel2 := below_put hbel hgrow2 (Nat.le_refl _) hbel.size
        clear hgrow2 hown hbel hc
        go_roundw
        case rel => exact ⟨k + 1, by omega, by go_num, rfl, by rw [HU.out], by rw [HT.out, flat_append, flat_one]; exact hown2, hbel2⟩
        case measure => simp [intOf]; omega
      · go_wp2_with (first | (refine wpList_edit rfl (.tmp 33) (.tmp 34) rfl (S + f) (-1 - (k : Int)) rfl rfl ?_) | (refine wpList_single rfl (.tmp 35) rfl (cellsE (S + f, -1 - (k : Int))) rfl rfl ?_) | (at_builtin; refine wpList_append_fits _ rfl (.tmp 32) (.tmp 36) 60 rfl w.heap.size 68 i0 33 Yba.underlying60 hi hz1 w.heap.size k len0 _ rfl (hown.alloc _) ⟨_, 0, none⟩ 1 1 (cellsE (S + f, -1 - (k : Int))) rfl rfl (single_cells _ _) (cellsE_one _) (by omega) ?_; intro w2 hown2 hgrow2))
        have hbel2 := below_put hbel hgrow2 (Nat.le_refl _) hbel.size
        clear hgrow2 hown hbel hc
        go_roundw
        case rel => exact ⟨k + 1, by omega, by go_num, rfl, by rw [HU.out], by rw [HT.out, flat_append, flat_one]; exact hown2, hbel2⟩
        case measure => simp [intOf]; omega
    · obtain rfl : k = len0 := by omega
      have hfull : ds.take k = ds := List.take_of_length_le (by rw [HFA.out]; exact Nat.le_refl _)
      rw [hfull] at hown
      clear hfull hcs hcl
      go_wp2
      go_ret
      exact ⟨rfl, hown, hbel⟩
end Go.Proofs.Ybulkbaiq
