/- The sort of no spans at all: nothing turns. -/
import Derived.Test.YbulkbajeSort
namespace Go.Proofs.Ybulkbaje
open Go.RowKit
set_option linter.unusedSimpArgs false
set_option linter.unusedVariables false

theorem insert53_nil (a : Option Addr) (c : Nat) (f : Value) (w : World) : Calls Yba.prog 53 #[.slice a 0 c, .int .i64 0, .int .i64 0, f] w fun e w' => e = .returned (.tuple #[]) ∧ w' = w := by
  go_enter Yba.func53, Yba.ntmps53
  go_wp2
  go_loop [8] (fun v => v = .int .i64 1) (fun _ => 0)
  case atStart => rfl
  case round =>
    subst hrel
    go_wp2
    go_end0
    exact ⟨rfl, rfl⟩
theorem pdq51_nil (a : Option Addr) (c : Nat) (f : Value) (lim : Int) (w : World) : Calls Yba.prog 51 #[.slice a 0 c, .int .i64 0, .int .i64 0, .int .i64 lim, f] w fun e w' => e = .returned (.tuple #[]) ∧ w' = w := by
  go_enter Yba.func51, Yba.ntmps51
  go_wp2
  go_loop [1, 2] (fun v u => v = .int .i64 0 ∧ u = .int .i64 0) (fun _ _ => 0)
  case atStart => exact ⟨rfl, rfl⟩
  case round =>
    obtain ⟨rfl, rfl⟩ := hrel
    go_wp2_with (go_at_call 53; refine (insert53_nil _ _ _ _).mono ?_; rintro e w' ⟨rfl, rfl⟩)
    exact bodyPost_ret (v := .tuple #[]) (by simp [results, Yba.results51]) rfl ⟨rfl, rfl⟩
set_option maxHeartbeats 1000000 in
theorem sort_nil (a : Option Addr) (c : Nat) (f : Value) (w : World) : Calls Yba.prog 45 #[.slice a 0 c, f] w fun e w' => e = .returned (.tuple #[]) ∧ w' = w := by
  have hl := Yba.bits_Len 0 w (by omega) (by omega)
  generalize (Lib.bitLen (Int.toNat 0) : Int) = l at hl
  go_enter Yba.func45, Yba.ntmps45
  go_wp2_with (first | (go_at_call 20; refine hl.mono ?_; rintro e w' ⟨rfl, rfl⟩) | (go_at_call 51; refine (pdq51_nil _ _ _ _ _).mono ?_; rintro e w' ⟨rfl, rfl⟩))
  go_end0
  exact ⟨rfl, rfl⟩
end Go.Proofs.Ybulkbaje
