/- zzs2578bhas (9), zzs2578bin (10) as callees of a region that draws its order: the blocks they lay lie behind the world. -/
import Derived.Test.YbulkbajeLast
namespace Go.Proofs.Ybulkbaje
open Go.RowKit
set_option linter.unusedSimpArgs false
set_option linter.unusedVariables false

theorem grow_alloc {w wr : World} (h : ∃ os, wr = Go.Sort.grow w os) (o : Obj) : ∃ os, wr.alloc o = Go.Sort.grow w os := by
  obtain ⟨os, rfl⟩ := h
  exact ⟨os ++ #[o], by rw [Go.Sort.alloc_eq_grow, Go.Sort.grow_grow]⟩

set_option maxRecDepth 100000 in
set_option maxHeartbeats 1000000 in
theorem has_g (S : List (Int × Int)) (a : Option Addr) (n c : Nat) (x : Int) (w : World) (h : ArgS w a n S) (hn : n ≤ 1000000) :
    Calls Yba.prog 9 #[.slice a n c, .int .u64 x] w fun e w' => e = .returned (.bool (hasB S x)) ∧ ∃ os, w' = Go.Sort.grow w os := by
  obtain ⟨hL, hd⟩ := h
  have HL := hide hL
  have HD := hide hd
  clear hL hd
  go_enter Yba.func9, Yba.ntmps9
  go_wp2
  go_loopw [9] (fun v wr => ∃ k : Nat, v = .int .i64 k ∧ k ≤ n ∧ Hid (hasB (S.take k) x = false) ∧ Below w.heap.size w wr ∧ Hid (∃ os, wr = Go.Sort.grow w os)) (fun v _ => n - (intOf v).toNat)
  case atStart => exact ⟨0, rfl, Nat.zero_le _, hasB_nil x, Below.refl _ _, ⟨#[], (Go.Sort.grow_empty w).symm⟩⟩
  case round =>
    obtain ⟨k, rfl, hk, HK, hbel, HG⟩ := hrel
    by_cases hkn : k < n
    · obtain ⟨b, off, rfl, hlt, hc⟩ := HD.out (by omega)
      have c0 := (hbel.cell (p := ⟨b, off + k * 2, none⟩) hlt).trans (hc k hkn).1
      have c1 := (hbel.cell (p := ⟨b, off + k * 2 + 1, none⟩) hlt).trans (hc k hkn).2
      have HT := hide (hasB_take S k x (by rw [HL.out]; exact hkn))
      have HH : Hid ((S.getD k (0, 0)).1 ≤ x → x ≤ (S.getD k (0, 0)).2 → hasB S x = true) := fun h1 h2 => hasB_hit (by rw [HL.out]; exact hkn) h1 h2
      clear hc
      generalize S.getD k (0, 0) = s at c0 c1 HT HH
      by_cases h1 : s.1 ≤ x
      · by_cases h2 : x ≤ s.2
        · go_wp2
          go_ret
          exact ⟨ret_bool (HH.out h1 h2).symm, grow_alloc HG.out _⟩
        · go_wp2
          go_roundw
          case rel => exact ⟨k + 1, by go_num, by omega, by show hasB (S.take (k + 1)) x = false; rw [HT.out, HK.out, decide_eq_false (by omega)]; rfl, hbel.alloc hbel.size _, grow_alloc HG.out _⟩
          case measure => simp [intOf]; omega
      · go_wp2
        go_roundw
        case rel => exact ⟨k + 1, by go_num, by omega, by show hasB (S.take (k + 1)) x = false; rw [HT.out, HK.out, decide_eq_false (by omega)]; rfl, hbel.alloc hbel.size _, grow_alloc HG.out _⟩
        case measure => simp [intOf]; omega
    · obtain rfl : k = n := by omega
      have hfull : S.take k = S := List.take_of_length_le (by rw [HL.out]; exact Nat.le_refl _)
      have HK2 : Hid (hasB S x = false) := by have := HK.out; rw [hfull] at this; exact this
      clear hfull HK
      go_wp2
      go_ret
      exact ⟨ret_bool HK2.out.symm, HG.out⟩

theorem below_g (w : World) (q : Nat) (os : Array Obj) : Below w.heap.size w (Go.Sort.grow (w.drewN q) os) := (below_quiet (Below.refl _ w)).trans (below_grow _ _ os (Nat.le_refl _))
theorem has_calls (S : List (Int × Int)) (a : Option Addr) (n c : Nat) (x : Int) (bb : Bool) (w : World) (h : ArgS w a n S) (hn : n ≤ 1000000) (hb : hasB S x = bb) (q : Nat) (os : Array Obj) :
    Calls Yba.prog 9 #[.slice a n c, .int .u64 x] (Go.Sort.grow (w.drewN q) os) fun e w'' => e = .returned (.bool bb) ∧ ∃ p : GrownBy, w'' = Go.Sort.grow (w.drewN p.n) p.os := by
  refine Calls.grown_of ((has_g S a n c x _ (h.below (below_g w q os)) hn).mono ?_)
  rintro e w' ⟨rfl, os', rfl⟩
  exact ⟨by rw [hb], 0, os', rfl⟩
theorem in_calls (L : List (List Int)) (I : List Nat) (a0 : Option Addr) (n0 c0 : Nat) (a1 : Option Addr) (n1 c1 : Nat) (x : Int) (bb : Bool) (w : World) (h0 : Dat w a0 n0 L) (h1 : ArgN w a1 n1 I) (hI : ∀ t, t < n1 → I.getD t 0 < n0) (hn0 : n0 ≤ 256) (hn1 : n1 ≤ 256)
    (hli : ∀ i, i < n0 → (L.getD i []).length ≤ 256) (hb : inB L I x = bb) (q : Nat) (os : Array Obj) :
    Calls Yba.prog 10 #[.slice a0 n0 c0, .slice a1 n1 c1, .int .u64 x] (Go.Sort.grow (w.drewN q) os) fun e w'' => e = .returned (.bool bb) ∧ ∃ p : GrownBy, w'' = Go.Sort.grow (w.drewN p.n) p.os := by
  refine Calls.grown_of ((in_any L I a0 n0 c0 a1 n1 c1 x _ (h0.below (below_g w q os)) (h1.below (below_g w q os)) hI hn0 hn1 hli).mono ?_)
  rintro e w' ⟨rfl, rfl⟩
  exact ⟨by rw [hb], 0, #[], by rw [Go.Sort.grow_empty]; rfl⟩
end Go.Proofs.Ybulkbaje
