/- slices.symMergeCmpFunc (26), whole: by induction on the stretch's length. -/
import Derived.Test.YbulkbaiqSymL
import Derived.Test.YbulkbaiqSymR
import Derived.Test.YbulkbaiqSymH
import Derived.Test.YbulkbaiqSymO
namespace Go.Proofs.Ybulkbaiq
open Go.RowKit

theorem sym_all (g N : Nat) (hN2 : N ≤ 4096) : ∀ (n : Nat) (D0 : Row) (a m b : Nat) (w : World), b - a ≤ n → D0.length = N → Blk w g D0 → a < m → m < b → b ≤ N → Srt D0 a m → Srt D0 m b →
    Calls Yba.prog 26 #[.slice (some ⟨g, 0, none⟩) N N, .int .i64 a, .int .i64 m, .int .i64 b, cf] w fun e w' => e = .returned (.tuple #[]) ∧ ∃ D, Blk w' g D ∧ Rearr D0 D a b ∧ Srt D a b ∧ w.grownBy w' (some g)
  | 0, D0, a, m, b, w, hn, _, _, ham, hmb, _, _, _ => by omega
  | n + 1, D0, a, m, b, w, hn, hN, hb, ham, hmb, hbN, hl, hr => by
    by_cases h1 : m = a + 1
    · exact sym_left D0 g a m b N w hN hb h1 hmb hbN hN2 hr
    · by_cases h2 : b = m + 1
      · exact sym_right D0 g a m b N w hN hb (by omega) h2 hbN hN2 hl
      · have IH : ∀ (D : Row) (a' m' b' : Nat) (w' : World), b' - a' < b - a → D.length = N → Blk w' g D → a' < m' → m' < b' → b' ≤ N → Srt D a' m' → Srt D m' b' →
            Calls Yba.prog 26 #[.slice (some ⟨g, 0, none⟩) N N, .int .i64 a', .int .i64 m', .int .i64 b', cf] w' fun e w'' => e = .returned (.tuple #[]) ∧ ∃ D', Blk w'' g D' ∧ Rearr D D' a' b' ∧ Srt D' a' b' ∧ w'.grownBy w'' (some g) :=
          fun D a' m' b' w' h => sym_all g N hN2 n D a' m' b' w' (by omega)
        by_cases h3 : (a + b) / 2 < m
        · exact sym_hi D0 g a m b N _ w hN hb (by omega) (by omega) hbN hN2 hl hr rfl h3 IH
        · exact sym_lo D0 g a m b N _ w hN hb (by omega) (by omega) hbN hN2 hl hr rfl (by omega) IH
theorem sym_any (D0 : Row) (g a m b N : Nat) (w : World) (hN : D0.length = N) (hb : Blk w g D0) (ham : a < m) (hmb : m < b) (hbN : b ≤ N) (hN2 : N ≤ 4096) (hl : Srt D0 a m) (hr : Srt D0 m b) :
    Calls Yba.prog 26 #[.slice (some ⟨g, 0, none⟩) N N, .int .i64 a, .int .i64 m, .int .i64 b, cf] w fun e w' => e = .returned (.tuple #[]) ∧ ∃ D, Blk w' g D ∧ Rearr D0 D a b ∧ Srt D a b ∧ w.grownBy w' (some g) :=
  sym_all g N hN2 (b - a) D0 a m b w (Nat.le_refl _) hN hb ham hmb hbN hl hr
end Go.Proofs.Ybulkbaiq
