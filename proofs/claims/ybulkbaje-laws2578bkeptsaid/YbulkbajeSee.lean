/- zzs2578bhas (9), zzs2578bin (10): they look. -/
import Derived.Test.YbulkbajeBase
import Derived.Test.YbulkbajePlain
namespace Go.Proofs.Ybulkbaje
open Go.RowKit
set_option linter.unusedSimpArgs false
set_option linter.unusedVariables false

/-- A slice of spans: what it holds. -/
def ArgS (w : World) (a : Option Addr) (n : Nat) (S : List (Int × Int)) : Prop :=
  S.length = n ∧ (0 < n → ∃ b off, a = some ⟨b, off, none⟩ ∧ b < w.heap.size ∧ ∀ t, t < n → w.cell? ⟨b, off + t * 2, none⟩ = some (.int .u64 (S.getD t (0, 0)).1) ∧ w.cell? ⟨b, off + t * 2 + 1, none⟩ = some (.int .u64 (S.getD t (0, 0)).2))
theorem ArgS.below {w w' : World} {a : Option Addr} {n : Nat} {S : List (Int × Int)} (h : ArgS w a n S) (hb : Below w.heap.size w w') : ArgS w' a n S := by
  obtain ⟨h1, h2⟩ := h
  refine ⟨h1, fun hl => ?_⟩
  obtain ⟨b, off, e, hlt, hc⟩ := h2 hl
  exact ⟨b, off, e, Nat.lt_of_lt_of_le hlt hb.size, fun t ht => ⟨(hb.cell (p := ⟨b, off + t * 2, none⟩) hlt).trans (hc t ht).1, (hb.cell (p := ⟨b, off + t * 2 + 1, none⟩) hlt).trans (hc t ht).2⟩⟩
theorem ret_bool {a b : Bool} (h : a = b) : Ending.returned (.bool a) = .returned (.bool b) := by rw [h]

set_option maxRecDepth 100000 in
set_option maxHeartbeats 1000000 in
theorem has_any (S : List (Int × Int)) (a : Option Addr) (n c : Nat) (x : Int) (w : World) (h : ArgS w a n S) (hn : n ≤ 1000000) :
    Calls Yba.prog 9 #[.slice a n c, .int .u64 x] w fun e w' => e = .returned (.bool (hasB S x)) ∧ Below w.heap.size w w' := by
  obtain ⟨hL, hd⟩ := h
  have HL := hide hL
  have HD := hide hd
  clear hL hd
  go_enter Yba.func9, Yba.ntmps9
  go_wp2
  go_loopw [9] (fun v wr => ∃ k : Nat, v = .int .i64 k ∧ k ≤ n ∧ Hid (hasB (S.take k) x = false) ∧ Below w.heap.size w wr) (fun v _ => n - (intOf v).toNat)
  case atStart => exact ⟨0, rfl, Nat.zero_le _, hasB_nil x, Below.refl _ _⟩
  case round =>
    obtain ⟨k, rfl, hk, HK, hbel⟩ := hrel
    by_cases hkn : k < n
    · obtain ⟨b, off, rfl, hlt, hc⟩ := HD.out (by omega)
      have c0 := (hbel.cell (p := ⟨b, off + k * 2, none⟩) hlt).trans (hc k hkn).1
      have c1 := (hbel.cell (p := ⟨b, off + k * 2 + 1, none⟩) hlt).trans (hc k hkn).2
      have HT := hide (hasB_take S k x (by rw [HL.out]; exact hkn))
      have HH : Hid ((S.getD k (0, 0)).1 ≤ x → x ≤ (S.getD k (0, 0)).2 → hasB S x = true) := fun h1 h2 => hasB_hit (by rw [HL.out]; exact hkn) h1 h2
      clear hc
      generalize S.getD k (0, 0) = s at c0 c1 HT HH
      by_cases h1 : s.1 ≤ x
      · by_cases h2 : x ≤ s.2
        · go_wp2
          go_ret
          exact ⟨ret_bool (HH.out h1 h2).symm, hbel.alloc hbel.size _⟩
        · go_wp2
          go_roundw
          case rel => exact ⟨k + 1, by go_num, by omega, by show hasB (S.take (k + 1)) x = false; rw [HT.out, HK.out, decide_eq_false (by omega)]; rfl, hbel.alloc hbel.size _⟩
          case measure => simp [intOf]; omega
      · go_wp2
        go_roundw
        case rel => exact ⟨k + 1, by go_num, by omega, by show hasB (S.take (k + 1)) x = false; rw [HT.out, HK.out, decide_eq_false (by omega)]; rfl, hbel.alloc hbel.size _⟩
        case measure => simp [intOf]; omega
    · obtain rfl : k = n := by omega
      have hfull : S.take k = S := List.take_of_length_le (by rw [HL.out]; exact Nat.le_refl _)
      have HK2 : Hid (hasB S x = false) := by have := HK.out; rw [hfull] at this; exact this
      clear hfull HK
      go_wp2
      go_ret
      exact ⟨ret_bool HK2.out.symm, hbel⟩
/-- A slice of places. -/
def ArgN (w : World) (a : Option Addr) (n : Nat) (I : List Nat) : Prop :=
  I.length = n ∧ (0 < n → ∃ b off, a = some ⟨b, off, none⟩ ∧ b < w.heap.size ∧ ∀ t, t < n → w.cell? ⟨b, off + t, none⟩ = some (.int .i64 ((I.getD t 0 : Nat) : Int)))
theorem ArgN.below {w w' : World} {a : Option Addr} {n : Nat} {I : List Nat} (h : ArgN w a n I) (hb : Below w.heap.size w w') : ArgN w' a n I := by
  obtain ⟨h1, h2⟩ := h
  refine ⟨h1, fun hl => ?_⟩
  obtain ⟨b, off, e, hlt, hc⟩ := h2 hl
  exact ⟨b, off, e, Nat.lt_of_lt_of_le hlt hb.size, fun t ht => (hb.cell (p := ⟨b, off + t, none⟩) hlt).trans (hc t ht)⟩

theorem u16_bound {n : Int} (h : (Lit.int .u16 n).wf = true) : 0 ≤ n ∧ n ≤ 65535 := by
  simp [Lit.wf, IntKind.min, IntKind.max, IntKind.signed, IntKind.bits] at h
  omega
theorem map_getD (d : List Int) (k : Nat) (h : k < d.length) : (d.map spanOf).getD k (0, 0) = spanOf (d.getD k 0) := by simp [h]

set_option maxRecDepth 100000 in
set_option maxHeartbeats 2000000 in
theorem in_any (L : List (List Int)) (I : List Nat) (a0 : Option Addr) (n0 c0 : Nat) (a1 : Option Addr) (n1 c1 : Nat) (x : Int) (w : World) (h0 : Dat w a0 n0 L) (h1 : ArgN w a1 n1 I) (hI : ∀ t, t < n1 → I.getD t 0 < n0) (hn0 : n0 ≤ 256) (hn1 : n1 ≤ 256)
    (hli : ∀ i, i < n0 → (L.getD i []).length ≤ 256) :
    Calls Yba.prog 10 #[.slice a0 n0 c0, .slice a1 n1 c1, .int .u64 x] w fun e w' => e = .returned (.bool (inB L I x)) ∧ w' = w := by
  obtain ⟨hL, hd⟩ := h0
  obtain ⟨hM, hm⟩ := h1
  have HL := hide hL
  have HD := hide hd
  have HM := hide hM
  have HE := hide hm
  have HI := hide hI
  have HLI := hide hli
  clear hL hd hM hm hI hli
  go_enter Yba.func10, Yba.ntmps10
  go_wp2
  go_loop [15] (fun v => ∃ k : Nat, v = .int .i64 k ∧ k ≤ n1 ∧ Hid (inB L (I.take k) x = false)) (fun v => n1 - (intOf v).toNat)
  case atStart => exact ⟨0, rfl, Nat.zero_le _, rfl⟩
  case round =>
    obtain ⟨k, rfl, hk, HK⟩ := hrel
    by_cases hkn : k < n1
    · obtain ⟨b, off, rfl, hlt, hc⟩ := HE.out (by omega)
      have hck := hc k hkn
      have hin := HI.out k hkn
      have HT := hide (inB_take L I k x (by rw [HM.out]; exact hkn))
      have HH : Hid (hasB ((L.getD (I.getD k 0) []).map spanOf) x = true → inB L I x = true) := fun h1 => inB_hit (by rw [HM.out]; exact hkn) h1
      clear hc
      generalize I.getD k 0 = i at hck hin HT HH
      obtain ⟨b2, off2, rfl, hlt2, hc2⟩ := HD.out (by omega)
      obtain ⟨ai, ni, ci, e1, e2⟩ := hc2 i hin
      have hln := HLI.out i hin
      have HN := hide e2.1
      rw [e2.1] at hln
      have HA := hide e2.2.1
      have HW := hide e2.2.2
      have hin' : (i : Int) < (n0 : Int) := by omega
      clear hc2 e2
      generalize L.getD i [] = d at HN HA HW HT HH
      go_wp2
      go_loop [24] (fun v => ∃ j : Nat, v = .int .i64 j ∧ j ≤ ni ∧ Hid (hasB ((d.map spanOf).take j) x = false)) (fun v => ni - (intOf v).toNat)
      case atStart => exact ⟨0, rfl, Nat.zero_le _, rfl⟩
      case round =>
        obtain ⟨j, rfl, hj, HJ⟩ := hrel
        by_cases hjn : j < ni
        · obtain ⟨b3, off3, rfl, hlt3, hc3⟩ := HA.out (by omega)
          have hcj := hc3 j hjn
          have hv := u16_bound (HW.out j)
          have hjd : j < (d.map spanOf).length := by rw [List.length_map, HN.out]; exact hjn
          have HT2 := hide (hasB_take (d.map spanOf) j x hjd)
          have HH2 : Hid (((d.map spanOf).getD j (0, 0)).1 ≤ x → x ≤ ((d.map spanOf).getD j (0, 0)).2 → hasB (d.map spanOf) x = true) := fun h1 h2 => hasB_hit hjd h1 h2
          rw [map_getD d j (by rw [HN.out]; exact hjn)] at HT2 HH2
          clear hc3 hjd
          generalize d.getD j 0 = v at hcj hv HT2 HH2
          by_cases q1 : v % 64 ≤ x
          · by_cases q2 : x ≤ v % 64 + v / 256 % 8
            · go_wp2
              go_ret
              exact ⟨ret_bool (HH.out (HH2.out q1 q2)).symm, rfl⟩
            · go_wp2
              go_round
              case rel => exact ⟨j + 1, by go_num, by omega, by show hasB ((d.map spanOf).take (j + 1)) x = false; rw [HT2.out, HJ.out, decide_eq_false (show ¬ ((spanOf v).1 ≤ x ∧ x ≤ (spanOf v).2) from by simp only [spanOf]; omega)]; rfl⟩
              case measure => simp [intOf]; omega
          · go_wp2
            go_round
            case rel => exact ⟨j + 1, by go_num, by omega, by show hasB ((d.map spanOf).take (j + 1)) x = false; rw [HT2.out, HJ.out, decide_eq_false (show ¬ ((spanOf v).1 ≤ x ∧ x ≤ (spanOf v).2) from by simp only [spanOf]; omega)]; rfl⟩
            case measure => simp [intOf]; omega
        · obtain rfl : j = ni := by omega
          have hfull : (d.map spanOf).take j = d.map spanOf := List.take_of_length_le (by rw [List.length_map, HN.out]; exact Nat.le_refl _)
          have HJ2 : Hid (hasB (d.map spanOf) x = false) := by have := HJ.out; rw [hfull] at this; exact this
          clear hfull HJ
          go_wp2
          go_round
          case rel => exact ⟨k + 1, by go_num, by omega, by show inB L (I.take (k + 1)) x = false; rw [HT.out, HK.out, HJ2.out]; rfl⟩
          case measure => simp [intOf]; omega
    · obtain rfl : k = n1 := by omega
      have hfull : I.take k = I := List.take_of_length_le (by rw [HM.out]; exact Nat.le_refl _)
      have HK2 : Hid (inB L I x = false) := by have := HK.out; rw [hfull] at this; exact this
      clear hfull HK
      go_wp2
      go_ret
      exact ⟨ret_bool HK2.out.symm, rfl⟩
end Go.Proofs.Ybulkbaje
