/- cmp.isNaN[int] (23), cmp.Compare[int] (19), the law's comparing closure (18). -/
import Derived.Test.YbulkbaiqRowW
import Derived.BigQuiet
import Derived.Deep.QuietTactic
import Derived.Outline
import Derived.WalkLawsBesides
namespace Go.Proofs.Ybulkbaiq
open Go.RowKit
set_option linter.unusedSimpArgs false
set_option linter.unusedVariables false

def cmpI (x y : Int) : Int := if x < y then -1 else if y < x then 1 else 0
theorem cmpI_neg (x y : Int) : (cmpI x y < 0) ↔ x < y := by
  unfold cmpI
  repeat' split
  all_goals omega

theorem nan_any (x : Int) (w : World) : Calls Yba.prog 23 #[.int .i64 x] w fun e w' => e = .returned (.bool false) ∧ w' = w := by
  go_enter Yba.func23, Yba.ntmps23
  go_wp2
  go_ret
  exact ⟨by simp, rfl⟩

theorem compare_any (x y : Int) (w : World) : Calls Yba.prog 19 #[.int .i64 x, .int .i64 y] w fun e w' => e = .returned (.int .i64 (cmpI x y)) ∧ w' = w := by
  by_cases h1 : x < y
  · have e : cmpI x y = -1 := by unfold cmpI; rw [if_pos h1]
    rw [e]
    clear e
    go_enter Yba.func19, Yba.ntmps19
    go_wp2_with (go_at_call 23; refine (nan_any _ _).mono ?_; rintro e w' ⟨rfl, rfl⟩)
    go_ret
    exact ⟨rfl, rfl⟩
  · by_cases h2 : y < x
    · have e : cmpI x y = 1 := by unfold cmpI; rw [if_neg h1, if_pos h2]
      rw [e]
      clear e
      go_enter Yba.func19, Yba.ntmps19
      go_wp2_with (go_at_call 23; refine (nan_any _ _).mono ?_; rintro e w' ⟨rfl, rfl⟩)
      go_ret
      exact ⟨rfl, rfl⟩
    · have e : cmpI x y = 0 := by unfold cmpI; rw [if_neg h1, if_neg h2]
      rw [e]
      clear e
      go_enter Yba.func19, Yba.ntmps19
      go_wp2_with (go_at_call 23; refine (nan_any _ _).mono ?_; rintro e w' ⟨rfl, rfl⟩)
      go_ret
      exact ⟨rfl, rfl⟩

set_option maxRecDepth 100000 in
theorem less_any (x y : Int × Int) (w : World) : Calls Yba.prog 18 #[.agg (cellsE x).toArray, .agg (cellsE y).toArray] w fun e w' => e = .returned (.int .i64 (cmpI x.1 y.1)) ∧ w.grownBy w' none := by
  have hx : (cellsE x)[0]? = some (.int .i64 x.1) := rfl
  have hy : (cellsE y)[0]? = some (.int .i64 y.1) := rfl
  go_enter Yba.func18, Yba.ntmps18
  go_wp2_with (go_at_call 19; refine (compare_any _ _ _).mono ?_; rintro e w' ⟨rfl, rfl⟩)
  go_ret
  exact ⟨rfl, (World.grownBy_alloc w _ none).trans (World.grownBy_alloc _ _ none)⟩
end Go.Proofs.Ybulkbaiq
