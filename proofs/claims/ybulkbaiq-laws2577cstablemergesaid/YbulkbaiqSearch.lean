/- The plain laws on the searches of symMerge: no Go in sight. -/
import Derived.Test.YbulkbaiqStable
namespace Go.Proofs.Ybulkbaiq
set_option linter.unusedVariables false

def SLo (D : Row) (P s0 s : Nat) : Prop := ∀ c, s0 ≤ c → c < s → ky D c ≤ ky D (P - c)
def SHi (D : Row) (P r r0 : Nat) : Prop := ∀ c, r ≤ c → c < r0 → ky D (P - c) < ky D c
theorem srt_le {D : Row} {a b p q : Nat} (h : Srt D a b) (h1 : a ≤ p) (h2 : p ≤ q) (h3 : q < b) : ky D p ≤ ky D q := by
  by_cases e : p = q
  · rw [e]; exact Int.le_refl _
  · exact h p q h1 (by omega) h3
theorem slo_step {D : Row} {a m b mid s0 r0 s c : Nat} (hl : Srt D a m) (hr : Srt D m b) (q1 : a ≤ s0) (q2 : r0 ≤ m) (q3 : r0 ≤ mid) (q4 : mid + m ≤ b + s0) (h : SLo D (mid + m - 1) s0 s) (h0 : s0 ≤ s) (hc1 : s ≤ c) (hc2 : c < r0)
    (hk : ky D c ≤ ky D (mid + m - 1 - c)) : SLo D (mid + m - 1) s0 (c + 1) := fun c' e1 e2 => by
  by_cases e : c' < s
  · exact h c' e1 e
  · exact Int.le_trans (srt_le hl (by omega) (by omega) (by omega)) (Int.le_trans hk (srt_le hr (by omega) (by omega) (by omega)))
theorem shi_step {D : Row} {a m b mid s0 r0 r c : Nat} (hl : Srt D a m) (hr : Srt D m b) (q1 : a ≤ s0) (q2 : r0 ≤ m) (q3 : r0 ≤ mid) (q4 : mid + m ≤ b + s0) (h : SHi D (mid + m - 1) r r0) (h0 : r ≤ r0) (hc1 : s0 ≤ c) (hc2 : c < r)
    (hk : ky D (mid + m - 1 - c) < ky D c) : SHi D (mid + m - 1) c r0 := fun c' e1 e2 => by
  by_cases e : c' < r
  · have h1 : ky D (mid + m - 1 - c') ≤ ky D (mid + m - 1 - c) := srt_le hr (by omega) (by omega) (by omega)
    have h2 : ky D c ≤ ky D c' := srt_le hl (by omega) (by omega) (by omega)
    omega
  · exact h c' (by omega) e2
theorem cut_of {D : Row} {a m b mid s0 r0 s : Nat} (q1 : a ≤ s0) (q2 : r0 ≤ m) (q3 : r0 ≤ mid) (q4 : mid + m ≤ b + s0) (q5 : r0 = mid ∨ r0 = m) (q6 : mid + m = b + s0 ∨ s0 = a) (hlo : SLo D (mid + m - 1) s0 s) (hhi : SHi D (mid + m - 1) s r0) (h1 : s0 ≤ s) (h2 : s ≤ r0) :
    Cut D a m b mid s (mid + m - s) where
  h1 := by omega
  h2 := by omega
  h3 := by omega
  h4 := by omega
  sum := by omega
  cross e1 e2 := by
    have := hhi s (Nat.le_refl _) (by omega)
    rw [show mid + m - s - 1 = mid + m - 1 - s by omega]
    exact this
  apart e1 e2 := by
    have := hlo (s - 1) (by omega) (by omega)
    rw [show mid + m - 1 - (s - 1) = mid + m - s by omega] at this
    exact this
/-- A cut that leaves nothing to rotate. -/
theorem rot_none {D : Row} {a m b mid s f : Nat} (c : Cut D a m b mid s f) (h : ¬ (s < m ∧ m < f)) : Rot D D s m f := ⟨rfl, fun p => by
  have := c.h2
  have := c.h3
  congr 1
  unfold rotFrom
  repeat' split
  all_goals omega⟩
theorem cut_disj {D : Row} {a m b mid s f : Nat} (c : Cut D a m b mid s f) (hl : Srt D a m) (hr : Srt D m b) : ∀ p q, s ≤ p → p < m → m ≤ q → q < f → ky D q < ky D p := fun p q e1 e2 e3 e4 => by
  have := c.h1
  have := c.h4
  have h1 := c.cross (by omega) (by omega)
  have h2 : ky D q ≤ ky D (f - 1) := srt_le hr e3 (by omega) (by omega)
  have h3 : ky D s ≤ ky D p := srt_le hl (by omega) e1 e2
  omega

/-- The search for the place of the one element of a in m..b. -/
theorem one_lo {D : Row} {m b i h : Nat} {k : Int} (hs : Srt D m b) (hh1 : i ≤ h) (hh2 : h < b) (hk : ky D h < k) : ∀ p, m ≤ p → p < h + 1 → ky D p < k := fun p e1 e2 => by
  have := srt_le hs e1 (by omega : p ≤ h) hh2
  omega
theorem one_hi {D : Row} {m b h : Nat} {k : Int} (hs : Srt D m b) (hm : m ≤ h) (hk : k ≤ ky D h) : ∀ p, h ≤ p → p < b → k ≤ ky D p := fun p e1 e2 => by
  have := srt_le hs hm e1 e2
  omega
theorem two_lo {D : Row} {a m h : Nat} {k : Int} (hs : Srt D a m) (hh2 : h < m) (hk : ky D h ≤ k) : ∀ p, a ≤ p → p < h + 1 → ky D p ≤ k := fun p e1 e2 => by
  have := srt_le hs e1 (by omega : p ≤ h) hh2
  omega
theorem two_hi {D : Row} {a m h : Nat} {k : Int} (hs : Srt D a m) (hm : a ≤ h) (hk : k < ky D h) : ∀ p, h ≤ p → p < m → k < ky D p := fun p e1 e2 => by
  have := srt_le hs hm e1 e2
  omega
/-- What the two calls behind the rotation make of it. -/
theorem sym_final {D1 D2 D3 : Row} {a mid b : Nat} (hc : ∀ p q, a ≤ p → p < mid → mid ≤ q → q < b → ky D1 p ≤ ky D1 q) (r1 : Rearr D1 D2 a mid) (s1 : Srt D2 a mid) (r2 : Rearr D2 D3 mid b) (s2 : Srt D3 mid b) (h1 : a ≤ mid) (h2 : mid ≤ b) :
    Rearr D1 D3 a b ∧ Srt D3 a b :=
  ⟨(r1.mono (Nat.le_refl _) h2).trans (r2.mono h1 (Nat.le_refl _)), srt_join (r2.srt_out s1 (.inl (Nat.le_refl _))) s2 (cross_right r2 (cross_left r1 hc))⟩
/-- The rotation, where there is one, as a rearrangement. -/
theorem cut_rearr {D D1 : Row} {a m b mid s f : Nat} (c : Cut D a m b mid s f) (hl : Srt D a m) (hr : Srt D m b) (hrot : Rot D D1 s m f) (hb : b ≤ D.length) : Rearr D D1 a b :=
  (hrot.rearr c.h2 c.h3 (Nat.le_trans c.h4 hb) (cut_disj c hl hr)).mono c.h1 c.h4
theorem skip_left {D : Row} {a s mid : Nat} (h1 : Srt D a s) (h2 : Srt D s mid) (h : ¬ (a < s ∧ s < mid)) (hs : a ≤ s) : Srt D a mid := fun p q e1 e2 e3 => by
  by_cases e : s = a
  · exact h2 p q (by omega) e2 e3
  · exact h1 p q e1 e2 (by omega)

end Go.Proofs.Ybulkbaiq
