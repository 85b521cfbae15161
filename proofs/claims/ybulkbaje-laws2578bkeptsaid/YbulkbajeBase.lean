/- What comes in, and small laws: the rows of data, their reading behind later worlds. -/
import Derived.Test.YbulkbajeRows
import Derived.WalkKit
import Derived.OpenShut
import Derived.WalkLawsBesides
import Derived.WalkSpells
import Derived.Outline
namespace Go.Proofs.Ybulkbaje
open Go.RowKit

theorem hide {p : Prop} (h : p) : Hid p := h

/-- A slice of integers that came in: its numbers; where it has an element, where they lie. -/
def Arg (k : IntKind) (w : World) (a : Option Addr) (len : Nat) (fs : List Int) : Prop :=
  fs.length = len ∧ (0 < len → ∃ b off, a = some ⟨b, off, none⟩ ∧ b < w.heap.size ∧ ∀ t, t < len → w.cell? ⟨b, off + t, none⟩ = some (.int k (fs.getD t 0))) ∧ ∀ t, (Lit.int k (fs.getD t 0)).wf = true
/-- A slice of slices of uint16 that came in. -/
def Dat (w : World) (a : Option Addr) (len : Nat) (L : List (List Int)) : Prop :=
  L.length = len ∧ (0 < len → ∃ b off, a = some ⟨b, off, none⟩ ∧ b < w.heap.size ∧ ∀ i, i < len → ∃ ai ni ci, w.cell? ⟨b, off + i, none⟩ = some (.slice ai ni ci) ∧ Arg .u16 w ai ni (L.getD i []))

theorem Arg.below {k : IntKind} {w w' : World} {a : Option Addr} {len : Nat} {fs : List Int} (h : Arg k w a len fs) (hb : Below w.heap.size w w') : Arg k w' a len fs := by
  obtain ⟨h1, h2, h3⟩ := h
  refine ⟨h1, fun hl => ?_, h3⟩
  obtain ⟨b, off, e, hlt, hc⟩ := h2 hl
  exact ⟨b, off, e, Nat.lt_of_lt_of_le hlt hb.size, fun t ht => (hb.cell (p := ⟨b, off + t, none⟩) hlt).trans (hc t ht)⟩
theorem Dat.below {w w' : World} {a : Option Addr} {len : Nat} {L : List (List Int)} (h : Dat w a len L) (hb : Below w.heap.size w w') : Dat w' a len L := by
  obtain ⟨h1, h2⟩ := h
  refine ⟨h1, fun hl => ?_⟩
  obtain ⟨b, off, e, hlt, hc⟩ := h2 hl
  refine ⟨b, off, e, Nat.lt_of_lt_of_le hlt hb.size, fun i hi => ?_⟩
  obtain ⟨ai, ni, ci, e1, e2⟩ := hc i hi
  exact ⟨ai, ni, ci, (hb.cell (p := ⟨b, off + i, none⟩) hlt).trans e1, e2.below hb⟩

theorem below_quiet {B n : Nat} {a w : World} (h : Below B a w) : Below B a (w.drewN n) := ⟨h.os, h.tape, h.output, h.size, h.block⟩
theorem below_put {B g : Nat} {w wr w2 : World} {o : Obj} (h : Below B w wr) (hg : (wr.alloc o).grownBy w2 (some g)) (hB : B ≤ g) (hs : B ≤ wr.heap.size) : Below B w w2 := by
  refine (h.alloc hs o).grown hg ?_ ?_
  · simp; omega
  · intro k hk
    injection hk with hk
    omega
theorem below_own {B g : Nat} {w wr w2 : World} (h : Below B w wr) (hg : wr.grownBy w2 (some g)) (hB : B ≤ g) (hs : B ≤ wr.heap.size) : Below B w w2 :=
  h.grown hg hs (fun k hk => by injection hk with hk; omega)
theorem below_made {B : Nat} {w wr w2 : World} (h : Below B w wr) (hg : wr.grownBy w2 none) (hs : B ≤ wr.heap.size) : Below B w w2 :=
  h.grown hg hs (fun k hk => by cases hk)

/-! ### zzs2578bok (5) -/
def OkEnd (L : List (List Int)) (n0 n1 : Nat) (w : World) (e : Ending) (w' : World) : Prop :=
  ∃ r : Bool, e = .returned (.bool r) ∧ w' = w ∧ (r = true → 1 ≤ n0 ∧ n0 ≤ 256 ∧ 1 ≤ n1 ∧ n1 ≤ 256 ∧ ∀ i, i < n0 → (L.getD i []).length ≤ 256)
set_option maxHeartbeats 1000000 in
theorem ok_any (L : List (List Int)) (a0 : Option Addr) (n0 c0 : Nat) (a1 : Option Addr) (n1 c1 : Nat) (w : World) (h0 : Dat w a0 n0 L) (b0 : n0 ≤ 9223372036854775807) (b1 : n1 ≤ 9223372036854775807) (bi : ∀ i, i < n0 → (L.getD i []).length ≤ 9223372036854775807) :
    Calls Yba.prog 5 #[.slice a0 n0 c0, .slice a1 n1 c1] w fun e w' => OkEnd L n0 n1 w e w' := by
  by_cases g0 : n0 = 0 ∨ 256 < n0 ∨ n1 = 0 ∨ 256 < n1
  · rcases Nat.eq_zero_or_pos n0 with e0 | p0
    · subst e0
      go_enter Yba.func5, Yba.ntmps5
      go_wp2
      go_ret
      exact ⟨false, rfl, rfl, fun h => by cases h⟩
    · have p0' : ((n0 : Int) == 0) = false := by rw [beq_eq_false_iff_ne]; omega
      by_cases q0 : 256 < n0
      · go_enter Yba.func5, Yba.ntmps5
        go_wp2
        go_ret
        exact ⟨false, rfl, rfl, fun h => by cases h⟩
      · rcases Nat.eq_zero_or_pos n1 with e1 | p1
        · subst e1
          go_enter Yba.func5, Yba.ntmps5
          go_wp2
          go_ret
          exact ⟨false, rfl, rfl, fun h => by cases h⟩
        · have p1' : ((n1 : Int) == 0) = false := by rw [beq_eq_false_iff_ne]; omega
          have q1 : 256 < n1 := by omega
          go_enter Yba.func5, Yba.ntmps5
          go_wp2
          go_ret
          exact ⟨false, rfl, rfl, fun h => by cases h⟩
  · have p0 : 1 ≤ n0 := by omega
    have p1 : 1 ≤ n1 := by omega
    have q0 : n0 ≤ 256 := by omega
    have q1 : n1 ≤ 256 := by omega
    have p0' : ((n0 : Int) == 0) = false := by rw [beq_eq_false_iff_ne]; omega
    have p1' : ((n1 : Int) == 0) = false := by rw [beq_eq_false_iff_ne]; omega
    obtain ⟨hL, hd⟩ := h0
    obtain ⟨b, off, rfl, hlt, hc⟩ := hd (by omega)
    have HC := hide hc
    have HB := hide bi
    clear g0 hc bi hd
    go_enter Yba.func5, Yba.ntmps5
    go_wp2
    go_loop [27] (fun v => ∃ i : Nat, v = .int .i64 i ∧ i ≤ n0 ∧ Hid (∀ j, j < i → (L.getD j []).length ≤ 256)) (fun v => n0 - (intOf v).toNat)
    case atStart => exact ⟨0, rfl, Nat.zero_le _, fun j hj => by omega⟩
    case round =>
      obtain ⟨i, rfl, hi, HI⟩ := hrel
      by_cases hin : i < n0
      · obtain ⟨ai, ni, ci, e1, e2⟩ := HC.out i hin
        have hni := HB.out i hin
        have HN := hide e2.1
        rw [e2.1] at hni
        clear e2
        by_cases hbig : 256 < ni
        · go_wp2
          go_ret
          exact ⟨false, rfl, rfl, fun h => by cases h⟩
        · have HI2 : Hid (∀ j, j < i + 1 → (L.getD j []).length ≤ 256) := fun j hj => by
            by_cases e : j = i
            · subst e; rw [HN.out]; omega
            · exact HI.out j (by omega)
          go_wp2
          go_round
          case rel => exact ⟨i + 1, by go_num, by omega, HI2⟩
          case measure => simp [intOf]; omega
      · obtain rfl : i = n0 := by omega
        go_wp2
        go_ret
        exact ⟨true, rfl, rfl, fun _ => ⟨p0, q0, p1, q1, HI.out⟩⟩

end Go.Proofs.Ybulkbaje
