/- (*gf2Matrix).apply (function 9). -/
import Derived.Test.YbulkbalwRows
import Derived.Test.YbulkbalwPlain
import Derived.Laws.BitsAllLaws
import Derived.WalkKit
import Derived.OpenShut
import Derived.WalkLawsBesides
import Derived.WalkSpells
import Derived.Outline
namespace Go.Proofs.Ybulkbalw
open Go.RowKit


set_option maxHeartbeats 400000 in
theorem apply_any (m : Nat → Nat) (v g : Nat) (w : World) (hv : v < 4294967296) (hm : ∀ j, j < 32 → m j < 4294967296) (hc : ∀ j, j < 32 → w.cell? ⟨g, j, none⟩ = some (.int .u32 (m j : Nat))) :
    Calls Yba.prog 9 #[.pointer (some ⟨g, 0, none⟩), .int .u32 v] w fun e w' => e = .returned (.int .u32 (acc m v 32 : Nat)) ∧ w' = w := by
  go_enter Yba.func9, Yba.ntmps9
  go_wp2
  go_loop [1, 5, 6] (fun vv r i => ∃ k : Nat, k ≤ 32 ∧ i = .int .i64 k ∧ vv = .int .u32 ((v / 2 ^ k : Nat) : Int) ∧ r = .int .u32 ((acc m v k : Nat) : Int)) (fun _ _ i => 32 - (intOf i).toNat)
  case atStart => exact ⟨0, Nat.zero_le _, rfl, by simp, rfl⟩
  case round =>
    obtain ⟨k, hk, rfl, rfl, rfl⟩ := hrel
    have hal := acc_lt (v := v) hm k hk
    by_cases h0 : v / 2 ^ k = 0
    · have hfull := acc_full (m := m) h0 hk
      have h0' : (((v / 2 ^ k : Nat) : Int) != 0) = false := by rw [h0]; rfl
      clear hc hm
      go_wp2
      go_ret
      exact ⟨rfl, rfl⟩
    · have hk32 := left_below hv h0
      have hcell := hc k hk32
      have hml := hm k hk32
      have hql : v / 2 ^ k < 4294967296 := Nat.lt_of_le_of_lt (Nat.div_le_self _ _) hv
      have HD : Hid (v / 2 ^ (k + 1) = v / 2 ^ k / 2) := div_step v k
      have H1 : Hid (v / 2 ^ k % 2 = 1 → acc m v (k + 1) = acc m v k ^^^ m k) := acc_one
      have H0 : Hid (¬ v / 2 ^ k % 2 = 1 → acc m v (k + 1) = acc m v k) := acc_none
      have eb := u32_and_nat (v / 2 ^ k) 1 hql (by omega)
      rw [nat_mask1] at eb
      have ex := u32_xor_nat (acc m v k) (m k) hal hml
      clear hc hm
      generalize v / 2 ^ k = q at h0 hql HD H1 H0 eb ⊢
      generalize acc m v k = r at hal H1 H0 ex ⊢
      generalize m k = c at hml H1 ex hcell
      have h0' : ((q : Int) != 0) = true := by simpa using h0
      by_cases h1 : q % 2 = 1
      · have eb' : bits .and .u32 (q : Int) 1 = 1 := by rw [h1] at eb; exact eb
        clear eb
        go_wp2
        go_round
        case rel => exact ⟨k + 1, by omega, by go_num, by rw [HD.out]; go_num, by rw [H1.out h1]⟩
        case measure => simp [intOf]; omega
      · have eb' : bits .and .u32 (q : Int) 1 = 0 := by rw [show q % 2 = 0 by omega] at eb; exact eb
        clear eb ex
        go_wp2
        go_round
        case rel => exact ⟨k + 1, by omega, by go_num, by rw [HD.out]; go_num, by rw [H0.out h1]⟩
        case measure => simp [intOf]; omega
end Go.Proofs.Ybulkbalw
