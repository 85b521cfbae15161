/- The plain laws on blocks that are sorted one by one: no Go in sight. -/
import Derived.Test.YbulkbaiqStable
namespace Go.Proofs.Ybulkbaiq

/-- Sorted within each block of c elements, from A on. -/
def BlocksFrom (D : Row) (c A n : Nat) : Prop := ∀ p q, A ≤ p → p < q → q < n → p / c = q / c → ky D p ≤ ky D q
theorem blocks_none (D : Row) (c : Nat) : Blocks D c 0 := fun p q _ h2 _ => by omega
/-- One block more. -/
theorem blocks_step {D D' : Row} {c A E t : Nat} (hc : 0 < c) (hA : A = c * t) (h : Blocks D c A) (hr : Rearr D D' A E) (hs : Srt D' A E) : Blocks D' c E := fun p q h1 h2 h3 => by
  by_cases hq : q < A
  · unfold ky
    rw [hr.out p (by omega), hr.out q (by omega)]
    exact h p q h1 hq h3
  · by_cases hp : A ≤ p
    · exact hs p q hp h1 h2
    · exfalso
      have e1 : p / c < t := (Nat.div_lt_iff_lt_mul hc).2 (by rw [Nat.mul_comm]; omega)
      have e2 : t ≤ q / c := (Nat.le_div_iff_mul_le hc).2 (by rw [Nat.mul_comm]; omega)
      omega
theorem from_step {D D' : Row} {c A E n : Nat} (h : BlocksFrom D c A n) (hAE : A ≤ E) (hr : Rearr D D' A E) : BlocksFrom D' c E n := fun p q h0 h1 h2 h3 => by
  unfold ky
  rw [hr.out p (by omega), hr.out q (by omega)]
  exact h p q (by omega) h1 h2 h3
theorem from_zero {D : Row} {c n : Nat} (h : Blocks D c n) : BlocksFrom D c 0 n := fun p q _ h1 h2 h3 => h p q h1 h2 h3
/-- A block is sorted. -/
theorem from_srt {D : Row} {c A B n k : Nat} (hc : 0 < c) (h : BlocksFrom D c A n) (hB : B = c * k) (hAB : A ≤ B) {E : Nat} (hE : E ≤ B + c) (hn : E ≤ n) : Srt D B E := fun p q h1 h2 h3 => by
  have d : ∀ x, B ≤ x → x < B + c → x / c = k := fun x e1 e2 => by
    apply Nat.le_antisymm
    · exact Nat.le_of_lt_succ ((Nat.div_lt_iff_lt_mul hc).2 (by rw [Nat.succ_mul, Nat.mul_comm k c]; omega))
    · exact (Nat.le_div_iff_mul_le hc).2 (by rw [Nat.mul_comm]; omega)
  exact h p q (by omega) h2 (by omega) (by rw [d p h1 (by omega), d q (by omega) (by omega)])
end Go.Proofs.Ybulkbaiq
