/- The proof of 'Rows.LawS2583BColumnSaid': the frame after the kit's shells (an array of integers by value is opened by 'DataW.trod_array'); the walk is YbulkbalwColumn's. -/
import Derived.Test.YbulkbalwRows
import Derived.Test.YbulkbalwColumn
import Derived.WalkKit
import Derived.ProofKit
import Derived.OpenShut
import Derived.ChangeOld
import Derived.Below
namespace Go.Proofs.Ybulkbalw.lawS2583BColumn
open Go.ChangeShapes Go.WideShapes Go.ChangeAt Go.RowKit
set_option linter.unusedVariables false

theorem own : ownKnob Yba.prog.godebug = none := by kernel_rfl
theorem laidOut : laidOutB Yba.prog = true := by kernel_rfl
theorem cells35 : Yba.prog.cellsOf 35 = 1 := by kernel_rfl
theorem cells36 : Yba.prog.cellsOf 36 = 32 := by kernel_rfl
theorem bound_u32 {n : Int} (h : (Lit.int .u32 n).wf = true) : 0 ≤ n ∧ n < 4294967296 := by
  simp [Lit.wf, IntKind.min, IntKind.max, IntKind.signed, IntKind.bits] at h
  omega

/-- The cells of a matrix that came in: 32 numbers of 32 bits. -/
theorem open_matrix {H : Type} {enc : TypeId × Value → H} {w : World} {base : Nat} {sp : Nat → Bool} {held : Bool} {fuel : Nat} {cs : List Value} {x : DataW H × List MemPlace}
    (h : DataW.trod enc Yba.prog w base sp held fuel 36 cs = some x) :
    cs.length = 32 ∧ ∃ m : Nat → Nat, (∀ j, j < 32 → m j < 4294967296) ∧ (∀ j, j < 32 → cs[j]? = some (.int .u32 (m j : Nat))) ∧ ∀ v ∈ cs, v.oneCell' = true := by
  obtain ⟨xs, n, _, _, hlen, hxl, hel⟩ := DataW.trod_array Yba.underlying36 h
  rw [cells36] at hlen
  have each : ∀ j, j < 32 → ∃ z : Nat, z < 4294967296 ∧ cs[j]? = some (.int .u32 (z : Nat)) := by
    intro j hj
    have hj' := hel j hj
    rw [cells35, Nat.mul_one, List.getElem?_eq_getElem (by omega)] at hj'
    obtain ⟨z, e, _, wz⟩ := DataW.trod_int Yba.underlying35 hj'
    have hb := bound_u32 wz
    refine ⟨z.toNat, by omega, ?_⟩
    have hcj : j < cs.length := by omega
    rw [List.getElem?_eq_getElem hcj]
    rw [List.drop_eq_getElem_cons hcj, List.take_succ_cons] at e
    injection e with e1 _
    rw [e1, Int.toNat_of_nonneg hb.1]
  refine ⟨hlen, fun j => intOf (cs.getD j undef) |>.toNat, fun j hj => ?_, fun j hj => ?_, fun v hv => ?_⟩
  · obtain ⟨z, hz, hc⟩ := each j hj
    simp [hc, intOf, hz]
  · obtain ⟨z, hz, hc⟩ := each j hj
    simp [hc, intOf]
  · obtain ⟨j, hj, rfl⟩ := List.getElem_of_mem hv
    obtain ⟨z, hz, hc⟩ := each j (by omega)
    rw [List.getElem?_eq_getElem hj] at hc
    rw [Option.some.inj hc]
    rfl

set_option maxRecDepth 100000 in
theorem lifted (os : Os) (started : os.Started) (H : Type) (enc : TypeId × Value → H) :
    ReturnsInHanded {} Yba.checked os 6 .any (Rows.lawS2583BColumnSpec.pre6 enc Yba.prog Yba.f6 Rows.lawS2583BColumnRow.domain false) (Rows.lawS2583BColumnSpec.post enc Yba.prog Yba.f6 false true false false) := by
  refine returnsInHanded_of_change (C := Yba.checked) own started (by kernel_rfl) Yba.func6
    (ChangeSpec.witness6 (enc := enc) (C := Yba.checked) false ⟨#[], #[.agg (Array.replicate 32 (.int .u32 0)), .int .u8 0], []⟩ 8 (by kernel_rfl) (by kernel_rfl) (by kernel_rfl) (by kernel_rfl)) ?_
  intro W base args ds gs before hval0 hW hcnd _
  have hval : ∀ (j : Nat) t v, Yba.f6.params[j]? = some t → args[j]? = some v → Value.okWide Yba.prog W .any base t v := hval0
  have hW' := hW
  obtain ⟨p, q, hA0, hV, rfl, hfz, hnd⟩ := hW
  have hA : DataW.TrodAll enc Yba.prog W 0 (fun _ => true) true Yba.f6.params.toList args.toList ds p := hA0
  rw [Yba.params6] at hA hval
  obtain ⟨v0, vs0, d0, ds0, p0, q0, hargs, rfl, rfl, h0, r0⟩ := trodAll_cons hA
  obtain ⟨v1, vs1, d1, ds1, p1, q1, rfl, rfl, rfl, h1, r1⟩ := trodAll_cons r0
  obtain ⟨rfl, rfl, rfl⟩ := trodAll_nil r1
  obtain rfl : args = #[v0, v1] := by cases args; simp_all
  obtain ⟨rfl, rfl⟩ := trodVars_none hV
  obtain ⟨cs, rfl⟩ : ∃ cs, v0 = .agg cs := by
    have := hval 0 36 v0 rfl rfl
    simp only [Value.okWide, Yba.underlying36] at this
    obtain ⟨cs, h, _⟩ := this
    exact ⟨cs, h⟩
  have k0 := h0
  have lt0 : ∀ x ∈ p0, x.block < W.heap.size := by obtain ⟨m, hm⟩ := k0; exact DataW.trod_lt m _ _ _ hm
  obtain ⟨fuel, hf⟩ := h0
  obtain ⟨hl, m, hm, hc, hone⟩ := open_matrix hf
  obtain ⟨a1, rfl, rfl, rfl, w1⟩ := open_int Yba.underlying5 (hval 1 5 v1 rfl rfl) h1
  have hb := bounds_u8 w1
  clear hA0 hval0
  refine (column_any m cs.toList a1 W hm hl hc hone hb.1 hb.2).mono fun e W' ⟨he, bel⟩ => ?_
  subst he
  exact ⟨_, rfl, _, _, _, [], _, [], hW', trodAll_mk1 (shut_bool Yba.underlying4 _), (trodAll_cons_mk (Below.trod laidOut (by kernel_rfl) (of_decide_eq_true (by kernel_rfl)) k0 bel lt0) (trodAll_cons_mk (shut_int Yba.underlying5 w1) trodAll_mk0)), rfl, bel.frame _, fun h => by cases h⟩

theorem over : Rows.lawS2583BColumnRow.holds Yba.pinned (OpenSpec.ofChange Rows.lawS2583BColumnSpec) :=
  OpenClaim.holds_of_wide 6 Yba.f6 rfl rfl rfl rfl rfl rfl rfl ⟨rfl, rfl, rfl, rfl, rfl⟩ rfl rfl rfl rfl rfl (by kernel_rfl) Yba.func6 (by kernel_rfl)
    (of_decide_eq_true (by kernel_rfl)) (by unfold Func.isWrapper; first | (rw [if_pos (by decide +kernel)]; kernel_rfl) | (rw [if_neg (by decide +kernel)]; exact ⟨rfl, rfl⟩))
    (fun os started H enc _ => lifted os started H enc)

/-- ████ THE STATEMENT ████ -/
theorem proved : Rows.LawS2583BColumnSaid := over
end Go.Proofs.Ybulkbalw.lawS2583BColumn
