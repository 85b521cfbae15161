/- Frames by type; binary.AppendUvarint (17) below 256; slices.Sort (13) of an owned row. -/
import Derived.Test.YbulkbajeParts
namespace Go.Proofs.Ybulkbaje
open Go.RowKit
set_option linter.unusedSimpArgs false
set_option linter.unusedVariables false

/-- A step that writes, if anything old, into rows of type T alone: whatever else there is stays. -/
structure StepO (T : TypeId) (w w' : World) : Prop where
  os : w'.os = w.os
  tape : w'.tape = w.tape
  output : w'.output = w.output
  size : w.heap.size ≤ w'.heap.size
  block : ∀ (k : Nat) (o : Obj), (∀ cs, o ≠ Obj.cells cs T (0, 0)) → w.heap[k]? = some o → w'.heap[k]? = some o
theorem StepO.refl (T : TypeId) (w : World) : StepO T w w := ⟨rfl, rfl, rfl, Nat.le_refl _, fun _ _ _ h => h⟩
theorem StepO.trans {T : TypeId} {a b c : World} (h : StepO T a b) (k : StepO T b c) : StepO T a c := ⟨k.os.trans h.os, k.tape.trans h.tape, k.output.trans h.output, Nat.le_trans h.size k.size, fun i o hT hi => k.block i o hT (h.block i o hT hi)⟩
theorem StepO.of_grown {T : TypeId} {w w' : World} {row : Option Nat} (h : w.grownBy w' row) (hr : ∀ k, row = some k → ∃ cs, w.heap[k]? = some (.cells cs T (0, 0))) : StepO T w w' := by
  refine ⟨h.os, h.tape, h.output, h.size, fun k o hT hk => ?_⟩
  refine (h.block k (Array.getElem?_eq_some_iff.1 hk).1 (fun e => ?_)).trans hk
  obtain ⟨cs', h'⟩ := hr k e.symm
  rw [hk] at h'
  injection h' with h'
  exact hT cs' h'
theorem StepO.alloc (T : TypeId) (w : World) (o : Obj) : StepO T w (w.alloc o) := StepO.of_grown (World.grownBy_alloc w o none) (fun k h => by cases h)
theorem StepO.drew (T : TypeId) (w : World) (n : Nat) : StepO T w (w.drewN n) := ⟨rfl, rfl, rfl, Nat.le_refl _, fun _ _ _ h => h⟩
theorem StepO.row {T t : TypeId} {w w' : World} {k : Nat} {cs : List Value} (h : StepO T w w') (hT : t ≠ T) (hr : Row w k cs t) : Row w' k cs t :=
  h.block k _ (fun cs' e => by injection e with _ e2; exact hT e2) hr
theorem StepO.step {T : TypeId} {w w' : World} (h : StepO T w w') : Step T w w' := ⟨h.os, h.tape, h.output, h.size, fun k cs t hT hr => h.row hT hr⟩
theorem StepO.owns {T e : TypeId} {w w' : World} {B size n : Nat} {v : Value} {xs : List Value} (h : StepO T w w') (hT : e ≠ T) (ho : w.ownsRow B e size v n xs) : w'.ownsRow B e size v n xs := by
  refine ⟨ho.1, ?_⟩
  rcases ho.2 with h1 | ⟨g, cap, cur, e1, e2, e3, e4⟩
  · exact .inl h1
  · exact .inr ⟨g, cap, cur, e1, e2, h.block g _ (fun cs' e => by injection e with _ e2; exact hT e2) e3, e4⟩

theorem info5 : (Yba.prog.info? 5).map (fun i => (i.zero, i.size, i.bytes)) = some (some (.int .u8 0), 1, 1) := by kernel_rfl

/-- The bytes of a small number's varint. -/
def uvHi (x : Nat) : Int := bits BinOp.or IntKind.u8 (x : Int) 128
def uvN (x : Nat) : List Int := if x < 128 then [(x : Int)] else [uvHi x, 1]
theorem uvN_len (x : Nat) : (uvN x).length ≤ 2 := by unfold uvN; split <;> simp
def byt (l : List Int) : List Value := l.map (Value.int .u8)

def UvEnd (B n x : Nat) (xs : List Value) (w : World) (e : Ending) (w' : World) : Prop := ∃ v', e = .returned v' ∧ w'.ownsRow B 5 1 v' (n + (uvN x).length) (xs ++ byt (uvN x)) ∧ StepO 5 w w' ∧ Below B w w'

set_option maxRecDepth 100000 in
set_option maxHeartbeats 2000000 in
theorem uv_any (B n x : Nat) (hx : x < 256) (sv : Value) (xs : List Value) (w : World) (hown : w.ownsRow B 5 1 sv n xs) (hB : B ≤ w.heap.size) (hn : n ≤ 100000) :
    Calls Yba.prog 17 #[sv, .int .u64 x] w fun e w' => UvEnd B n x xs w e w' := by
  obtain ⟨i2, ji, jz0, jz1, jz2⟩ := info_parts info5
  by_cases h1 : x < 128
  · have hw8 : IntKind.u8.wrap (x : Int) = (x : Int) := by simp [IntKind.wrap, IntKind.bits, IntKind.signed]; omega
    have HE : Hid (uvN x = [(x : Int)]) := by show uvN x = _; simp [uvN, h1]
    go_enter Yba.func17, Yba.ntmps17
    go_wp2
    go_loopw [0, 1] (fun v u wr => v = sv ∧ u = .int .u64 x ∧ wr = w) (fun _ _ _ => 0)
    case atStart => exact ⟨rfl, rfl, rfl⟩
    case round =>
      obtain ⟨rfl, rfl, rfl⟩ := hrel
      go_wp2_with (at_builtin; refine wpList_append_own _ rfl (.tmp 15) (.tmp 18) 23 rfl B 5 i2 _ 1 1 Yba.underlying23 ji jz0 jz1 jz2 rfl (by decide) _ n xs rfl (hown.alloc _) ⟨wr.heap.size, 0, none⟩ 1 1 [.int .u8 x] rfl rfl ?hn1 ?hn2 ?hn3 ?hn4 ?hn5 ?_)
      case hn1 =>
        intro t u hu
        match t, hu with
        | 0, hu => simp at hu; subst hu; simp [Addr.add]
      case hn2 => intro u hu; simp at hu; subst hu; rfl
      case hn3 => unfold maxLen; omega
      case hn4 => omega
      case hn5 => simp; omega
      intro v' w9 hown9 hg9 _
      have hs9 : StepO 5 wr w9 := (StepO.alloc 5 wr _).trans (StepO.of_grown hg9 (fun k hk => (owns_block (hown.alloc _) hk).1))
      have hb9 : Below B wr w9 := ((Below.refl B wr).alloc hB _).grown hg9 (by simp; omega) (fun k hk => (owns_block hown hk).2)
      clear hg9
      go_wp2
      go_ret
      refine ⟨v', rfl, ?_, hs9, hb9⟩
      rw [HE.out]
      exact hown9
  · have hw8 : IntKind.u8.wrap (x : Int) = (x : Int) := by simp [IntKind.wrap, IntKind.bits, IntKind.signed]; omega
    have HE : Hid (uvN x = [uvHi x, 1]) := by show uvN x = _; simp [uvN, h1]
    have hbit : bits BinOp.or IntKind.u8 (x : Int) 128 = uvHi x := rfl
    generalize uvHi x = y at HE hbit
    have hge : (128 : Int) ≤ (x : Int) := by omega
    go_enter Yba.func17, Yba.ntmps17
    go_wp2
    go_loopw [0, 1] (fun v u wr => (v = sv ∧ u = .int .u64 x ∧ wr = w) ∨ (u = .int .u64 1 ∧ wr.ownsRow B 5 1 v (n + 1) (xs ++ [.int .u8 y]) ∧ StepO 5 w wr ∧ Below B w wr)) (fun _ u _ => (intOf u).toNat)
    case atStart => exact .inl ⟨rfl, rfl, rfl⟩
    case round =>
      rcases hrel with ⟨rfl, rfl, rfl⟩ | ⟨rfl, hown1, hs1, hb1⟩
      · go_wp2_with (at_builtin; refine wpList_append_own _ rfl (.tmp 7) (.tmp 11) 23 rfl B 5 i2 _ 1 1 Yba.underlying23 ji jz0 jz1 jz2 rfl (by decide) _ n xs rfl (hown.alloc _) ⟨wr.heap.size, 0, none⟩ 1 1 [.int .u8 y] rfl rfl ?hn1 ?hn2 ?hn3 ?hn4 ?hn5 ?_)
        case hn1 =>
          intro t u hu
          match t, hu with
          | 0, hu => simp at hu; subst hu; simp [Addr.add]
        case hn2 => intro u hu; simp at hu; subst hu; rfl
        case hn3 => unfold maxLen; omega
        case hn4 => omega
        case hn5 => simp; omega
        intro v' w9 hown9 hg9 _
        have hs9 : StepO 5 wr w9 := (StepO.alloc 5 wr _).trans (StepO.of_grown hg9 (fun k hk => (owns_block (hown.alloc _) hk).1))
        have hb9 : Below B wr w9 := ((Below.refl B wr).alloc hB _).grown hg9 (by simp; omega) (fun k hk => (owns_block hown hk).2)
        clear hg9 hown
        go_wp2
        go_roundw
        case rel => exact .inr ⟨by go_num, hown9, hs9, hb9⟩
        case measure => simp [intOf]; omega
      · go_wp2_with (at_builtin; refine wpList_append_own _ rfl (.tmp 15) (.tmp 18) 23 rfl B 5 i2 _ 1 1 Yba.underlying23 ji jz0 jz1 jz2 rfl (by decide) _ (n + 1) _ rfl (hown1.alloc _) ⟨wr.heap.size, 0, none⟩ 1 1 [.int .u8 1] rfl rfl ?hn1 ?hn2 ?hn3 ?hn4 ?hn5 ?_)
        case hn1 =>
          intro t u hu
          match t, hu with
          | 0, hu => simp at hu; subst hu; simp [Addr.add]
        case hn2 => intro u hu; simp at hu; subst hu; rfl
        case hn3 => unfold maxLen; omega
        case hn4 => omega
        case hn5 => have := hs1.size; simp; omega
        intro v' w9 hown9 hg9 _
        have hs9 : StepO 5 w w9 := hs1.trans ((StepO.alloc 5 wr _).trans (StepO.of_grown hg9 (fun k hk => (owns_block (hown1.alloc _) hk).1)))
        have hb9 : Below B w w9 := (hb1.alloc (Nat.le_trans hB hs1.size) _).grown hg9 (by have := hs1.size; simp; omega) (fun k hk => (owns_block hown1 hk).2)
        clear hg9
        go_wp2
        go_ret
        refine ⟨v', rfl, ?_, hs9, hb9⟩
        rw [HE.out]
        simpa [byt] using hown9
end Go.Proofs.Ybulkbaje
