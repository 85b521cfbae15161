/- (*rests).of (8). -/
import Derived.Test.YbulkbajeStep
namespace Go.Proofs.Ybulkbaje
open Go.RowKit
set_option linter.unusedSimpArgs false
set_option linter.unusedVariables false

theorem last_calls (x : Value) (g n c : Nat) (a : Option Addr) (d : Nat) (w : World) (hlt : g < w.heap.size) (hg : w.cell? ⟨g, 0, none⟩ = some (.slice a 1 d)) (hn : 0 < n) (q : Nat) (os : Array Obj) :
    Calls Yba.prog 16 #[.agg #[x, .slice (some ⟨g, 0, none⟩) n c]] (Go.Sort.grow (w.drewN q) os) fun e w'' => e = .returned (.bool false) ∧ ∃ p : GrownBy, w'' = Go.Sort.grow (w.drewN p.n) p.os := by
  refine Calls.grown_of ((last_any x g n c a 1 d _ (by rw [Go.Sort.size_grow]; exact Nat.lt_of_lt_of_le hlt (Nat.le_add_right _ _)) (cell_grown (a := ⟨g, 0, none⟩) hlt hg q os) hn).mono ?_)
  rintro e w' ⟨rfl, o, rfl⟩
  refine ⟨by simp, 0, #[.cells o 41], ?_⟩
  rw [Go.Sort.alloc_eq_grow]
  rfl

theorem key_take (J : List Nat) (i : Nat) (h : i < J.length) : byt ((J.take (i + 1)).flatMap uvN) = byt ((J.take i).flatMap uvN) ++ byt (uvN (J.getD i 0)) := by
  unfold byt
  rw [List.take_succ_eq_append_getElem h, List.flatMap_append, List.map_append]
  simp [h]
theorem uvN_pos (x : Nat) : 0 < (uvN x).length := by unfold uvN; split <;> simp
theorem srt_lt {I : List Nat} {n1 n0 i : Nat} (hI : I.length = n1) (h : ∀ t, t < n1 → I.getD t 0 < n0) (hi : i < n1) : (srt I).getD i 0 < n0 := by
  have h1 : (srt I).getD i 0 ∈ I := srt_mem (getD_mem _ _ _ (by rw [srt_length, hI]; exact hi))
  obtain ⟨t, ht, e⟩ := List.getElem_of_mem h1
  have := h t (by omega)
  rw [← e]
  simpa [ht] using this
theorem fin33 {X : World} {R r : Nat} {cs : List Value} (h : Row X R cs 33) (hR : r ≤ R) (u v : Value) : StepO 33 X ((X.setCell ⟨R, 0, none⟩ u).setCell ⟨R, 1, none⟩ v) ∧ Below r X ((X.setCell ⟨R, 0, none⟩ u).setCell ⟨R, 1, none⟩ v) := by
  have h1 := setCells_block R 33 [u, v] 0 cs X h
  exact ⟨StepO.of_grown h1.2 (fun k hk => by injection hk with hk; subst hk; exact ⟨_, h⟩), below_own (Below.refl r X) h1.2 hR (Nat.le_trans hR (Nat.le_of_lt h.lt))⟩
theorem fin33g {X : World} {R : Nat} {cs : List Value} (h : Row X R cs 33) (u v : Value) : X.grownBy ((X.setCell ⟨R, 0, none⟩ u).setCell ⟨R, 1, none⟩ v) (some R) := (setCells_block R 33 [u, v] 0 cs X h).2
/-- What the call leaves. -/
def OfEnd (L : List (List Int)) (I : List Nat) (n1 gR n0 r : Nat) (kept ord : Value) (w : World) (e : Ending) (w' : World) : Prop :=
  ∃ (gk p capk g3 cap3 : Nat), w'.ownsRow r 5 1 (.slice (some ⟨gk, 0, none⟩) p capk) p (byt ((srt I).flatMap uvN)) ∧ w'.ownsRow r 3 1 (.slice (some ⟨g3, 0, none⟩) n1 cap3) n1 ((srt I).map encN) ∧ Keep r w w' ∧
    (kept = .map none → ∃ (M : Nat) (aO : Option Addr) (cO : Nat) (a : Option Addr) (m c : Nat) (U : List (Int × Int)), e = .returned (.agg #[.slice none 0 0, .slice a m c]) ∧ m ≤ 100000 ∧ ArgT w' a m U ∧ (∀ x, hasB U x = inB L I x) ∧ Map1 w' M (strOf ((srt I).flatMap uvN)) (.agg #[.slice none 0 0, .slice a m c]) ∧
      Row w' r [.slice (some ⟨gR, 0, none⟩) n0 n0, .map (some M), .slice aO 1 cO, .slice (some ⟨gk, 0, none⟩) p capk, .slice (some ⟨g3, 0, none⟩) n1 cap3] 45) ∧
    (∀ (M : Nat) (aP : Option Addr) (mP cP : Nat), kept = .map (some M) → Map1 w M (strOf ((srt I).flatMap uvN)) (.agg #[.slice none 0 0, .slice aP mP cP]) → e = .returned (.agg #[.slice none 0 0, .slice aP mP cP]) ∧
      Row w' r [.slice (some ⟨gR, 0, none⟩) n0 n0, kept, ord, .slice (some ⟨gk, 0, none⟩) p capk, .slice (some ⟨g3, 0, none⟩) n1 cap3] 45)
theorem map1_same {w : World} {M : Nat} {K : ByteArray} {u v : Value} (h : Map1 w M K u) (k : Map1 w M K v) : u = v := by
  unfold Map1 at h k
  rw [h] at k
  simp at k
  exact k
theorem conv_W6 {w5 : World} {r gk p capk : Nat} {cs : List Value} {ns : List Int} (hrow5 : Row w5 r cs 45) (hO : w5.ownsRow r 5 1 (.slice (some ⟨gk, 0, none⟩) p capk) p (byt ns)) (u : Value) (o1 o2 : Obj) : (convert 23 9 (.slice (some ⟨gk, 0, none⟩) p capk)).run Yba.prog (((w5.setCell ⟨r, 1, none⟩ u).alloc o1).alloc o2) = .ok (.string (strOf ns)) (((w5.setCell ⟨r, 1, none⟩ u).alloc o1).alloc o2) :=
  conv_key (B := r) ((((set45 hrow5 u).2.1.owns (by decide) hO).alloc _).alloc _)
theorem eql_mapnil (w : World) : (binOp BinOp.eql 42 (.map none) (.map none)).run Yba.prog w = .ok (.bool true) w := by kernel_rfl
theorem make42 (w : World) : (Instr.makeMap 42 none).run Yba.prog w = .ok (.map (some w.heap.size)) (w.alloc (.map #[] 0)) := rfl
attribute [local go_sem] slice0_25 slice0_23 eql_mapnil make42

set_option maxRecDepth 100000 in
set_option maxHeartbeats 1600000 in
theorem of_any (L : List (List Int)) (I : List Nat) (b off n1 c1 gR n0 r : Nat) (A3 A4 : Option Addr) (q3 C3 q4 C4 : Nat) (kept ord : Value) (x3 x4 : List Value) (w : World)
    (hb : b < r) (hin : ∀ t, t < n1 → w.cell? ⟨b, off + t, none⟩ = some (.int .i64 ((I.getD t 0 : Nat) : Int))) (hI : I.length = n1) (p1 : 1 ≤ n1) (q1 : n1 ≤ 256) (hlt : ∀ t, t < n1 → I.getD t 0 < n0) (q0 : n0 ≤ 256)
    (hrow : Row w r [.slice (some ⟨gR, 0, none⟩) n0 n0, kept, ord, .slice A3 q3 C3, .slice A4 q4 C4] 45) (hrows : Rows' w gR n0 L) (ho4 : w.ownsRow r 3 1 (.slice A4 q4 C4) q4 x4) (ho3 : w.ownsRow r 5 1 (.slice A3 q3 C3) q3 x3)
    (hli : ∀ i, (L.getD i []).length ≤ 256) (hlv : ∀ i, ∀ v ∈ L.getD i [], 0 ≤ v ∧ v ≤ 65535)
    (hk : (kept = .map none ∧ ord = .slice none 0 0) ∨ ∃ M aP mP cP, kept = .map (some M) ∧ Map1 w M (strOf ((srt I).flatMap uvN)) (.agg #[.slice none 0 0, .slice aP mP cP])) :
    Calls Yba.prog 8 #[.pointer (some ⟨r, 0, none⟩), .slice (some ⟨b, off, none⟩) n1 c1] w fun e w' => OfEnd L I n1 gR n0 r kept ord w e w' := by
  have hrlt := hrow.lt
  have HIN := hide hin
  have HI := hide hI
  have HLT := hide hlt
  have HLI := hide hli
  have HLV := hide hlv
  have HK := hide hk
  have HO3 := hide ho3
  have HO4 := hide ho4
  have HROW := hide hrow
  have HROWS := hide hrows
  have hI0 := hlt 0 (by omega)
  have hc0 := hin 0 (by omega)
  rw [Nat.add_zero] at hc0
  clear hin hI hlt hli hlv hk ho3 ho4 hrow hrows
  generalize eI0 : I.getD 0 0 = i0 at hI0 hc0
  obtain ⟨csR, hrR, hlR, hvR⟩ := HROWS.out
  obtain ⟨vR, evR, g5, c5, us5, more5, rfl, hr5, hl5, hm5, hv5⟩ := hvR i0 hI0
  obtain ⟨u5, eu5, h5, s5, rfl, hr6, hr7⟩ := hv5.2 0 (restsOf_pos _)
  obtain ⟨x0, ex0⟩ : ∃ x0, csR[i0 * 2]? = some x0 := ⟨csR[i0 * 2]'(by omega), List.getElem?_eq_getElem (by omega)⟩
  have hc5 : w.cell? ⟨g5, 0, none⟩ = some (.slice (some ⟨h5, 0, none⟩) 1 1) := hr5.cell (by rw [List.getElem?_append_left (by rw [hv5.1]; exact restsOf_pos _)]; exact eu5)
  have hcA := hrR.cell ex0
  have hcB := hrR.cell evR
  have hltR := hrR.lt
  have hlt5 := hr5.lt
  have hn5 := restsOf_pos (L.getD i0 [])
  generalize (restsOf (L.getD i0 [])).length = n5 at hcB hn5
  clear hrR hlR hvR evR hr5 hl5 hm5 hv5 eu5 hr6 hr7 ex0
  have HE0 := hide eI0
  clear eI0
  go_enter Yba.func8, Yba.ntmps8
  go_wp2
  have HS0 : Hid (∀ T, StepO T w (w.alloc (.cells #[.slice none 0 0, .slice none 0 0] 33))) := fun T => StepO.alloc _ _ _
  have HR0 : Hid (Row (w.alloc (.cells #[.slice none 0 0, .slice none 0 0] 33)) w.heap.size [.slice none 0 0, .slice none 0 0] 33) := row_new w _ _
  have HB0 : Hid (Below r w (w.alloc (.cells #[.slice none 0 0, .slice none 0 0] 33))) := (Below.refl r w).alloc (Nat.le_of_lt hrlt) _
  have hbz : Below w.heap.size w (w.alloc (.cells #[.slice none 0 0, .slice none 0 0] 33)) := (Below.refl _ w).alloc (Nat.le_refl _) _
  have d1 : (w.alloc (.cells #[.slice none 0 0, .slice none 0 0] 33)).cell? ⟨r, 0, none⟩ = some (.slice (some ⟨gR, 0, none⟩) n0 n0) := (row_alloc HROW.out _).cell rfl
  have d2 : (w.alloc (.cells #[.slice none 0 0, .slice none 0 0] 33)).cell? ⟨b, off, none⟩ = some (.int .i64 (i0 : Int)) := (hbz.cell (p := ⟨b, off, none⟩) (by show b < w.heap.size; omega)).trans hc0
  have d3 : (w.alloc (.cells #[.slice none 0 0, .slice none 0 0] 33)).cell? ⟨gR, i0 * 2, none⟩ = some x0 := (hbz.cell (p := ⟨gR, i0 * 2, none⟩) hltR).trans hcA
  have d4 : (w.alloc (.cells #[.slice none 0 0, .slice none 0 0] 33)).cell? ⟨gR, i0 * 2 + 1, none⟩ = some (.slice (some ⟨g5, 0, none⟩) n5 c5) := (hbz.cell (p := ⟨gR, i0 * 2 + 1, none⟩) hltR).trans hcB
  have d5 : (w.alloc (.cells #[.slice none 0 0, .slice none 0 0] 33)).cell? ⟨g5, 0, none⟩ = some (.slice (some ⟨h5, 0, none⟩) 1 1) := (hbz.cell (p := ⟨g5, 0, none⟩) hlt5).trans hc5
  have hsz0 : (w.alloc (.cells #[.slice none 0 0, .slice none 0 0] 33)).heap.size = w.heap.size + 1 := by simp
  generalize hwA : w.alloc (.cells #[.slice none 0 0, .slice none 0 0] 33) = wA at *
  clear hwA hbz hc0 hcA hcB hc5
  have e1 := fun n os => cell_grown (a := ⟨r, 0, none⟩) (by show r < wA.heap.size; omega) d1 n os
  have e2 := fun n os => cell_grown (a := ⟨b, off, none⟩) (by show b < wA.heap.size; omega) d2 n os
  have e3 := fun n os => cell_grown (a := ⟨gR, i0 * 2, none⟩) (by show gR < wA.heap.size; omega) d3 n os
  have e4 := fun n os => cell_grown (a := ⟨gR, i0 * 2 + 1, none⟩) (by show gR < wA.heap.size; omega) d4 n os
  have e5 := last_calls x0 g5 n5 c5 (some ⟨h5, 0, none⟩) 1 wA (by omega) d5 hn5
  have hmix := Yba.laysPdq.mixed
  have z1 : (0 : Int) < (n1 : Int) := by omega
  have z2 : (i0 : Int) < (n0 : Int) := by omega
  have z3 : 0 < n1 := by omega
  go_quiet_grown (exact e5 _ _)
  have HS1 : Hid (∀ T, StepO T wA (Go.Sort.grow (wA.drewN nq) osq)) := fun T => (StepO.drew T wA nq).trans (stepO_grow T _ osq)
  have HK1 : Hid (Keep r w (Go.Sort.grow (wA.drewN nq) osq)) := (Keep.of (.inl rfl) (HS0.out 45) HB0.out).trans (Keep.of (.inl rfl) (HS1.out 45) ((below_quiet (Below.refl r wA)).trans (below_grow r _ osq (by show r ≤ wA.heap.size; omega))))
  have hsz1 : w.heap.size + 1 ≤ (Go.Sort.grow (wA.drewN nq) osq).heap.size := by rw [← hsz0]; exact (HS1.out 45).size
  show Exit.then _ _ _ _ (Go.Sort.grow (wA.drewN nq) osq)
  generalize Go.Sort.grow (wA.drewN nq) osq = wB at *
  have hrowB : Row wB r [.slice (some ⟨gR, 0, none⟩) n0 n0, kept, ord, .slice A3 q3 C3, .slice A4 q4 C4] 45 := (HS1.out 0).row (by decide) ((HS0.out 0).row (by decide) HROW.out)
  have HR1 : Hid (Row wB w.heap.size [.slice none 0 0, .slice none 0 0] 33) := (HS1.out 0).row (by decide) HR0.out
  have hO4 : wB.ownsRow r 3 1 (.slice A4 q4 C4) q4 x4 := (HS1.out 0).owns (by decide) ((HS0.out 0).owns (by decide) HO4.out)
  have HO3B : Hid (wB.ownsRow r 5 1 (.slice A3 q3 C3) q3 x3) := (HS1.out 0).owns (by decide) ((HS0.out 0).owns (by decide) HO3.out)
  have hc4 := hrowB.cell (j := 4) rfl
  clear e1 e2 e3 e4 e5 d1 d2 d3 d4 d5 HS0 HB0 HS1 HR0 hsz0 wA
  obtain ⟨iz, ji, jz0, jz1, jz2⟩ := info_parts info3
  go_wp2_with (at_builtin; refine wpList_append_own _ rfl (.tmp 30) (.tmp 31) 25 rfl r 3 iz _ 1 8 Yba.underlying25 ji jz0 jz1 jz2 rfl (by decide) _ 0 [] rfl (owns0 hO4) ⟨b, off, none⟩ n1 c1 (I.map encN) rfl ?hn0 ?hn1 ?hn2 ?hn3 ?hn4 ?hn5 ?_)
  case hn0 => rw [List.length_map, HI.out, Nat.mul_one]
  case hn1 =>
    intro j u hu
    have hj : j < n1 := by have := (List.getElem?_eq_some_iff.1 hu).1; rw [List.length_map, HI.out] at this; exact this
    rw [Addr.add_mid]
    refine (HK1.out.bel.cell (p := ⟨b, off + j, none⟩) hb).trans ((HIN.out j hj).trans ?_)
    rw [← hu]
    simp [encN, show j < I.length by rw [HI.out]; exact hj]
  case hn2 => intro u hu; obtain ⟨i, _, rfl⟩ := List.mem_map.1 hu; rfl
  case hn3 => unfold maxLen; omega
  case hn4 => omega
  case hn5 => omega
  intro v3 w3 hown3 hg3 _
  have hs3 : StepO 3 wB w3 := StepO.of_grown hg3 (fun k hk => (owns_block (owns0 hO4) hk).1)
  have hb3 : Below r wB w3 := (Below.refl r wB).grown hg3 (by omega) (fun k hk => (owns_block (owns0 hO4) hk).2)
  have hrow3 := hs3.row (by decide) hrowB
  have HR3 := hide (hs3.row (by decide) HR1.out)
  have HO33 := hide (hs3.owns (by decide) HO3B.out)
  have HK3 := hide (HK1.out.trans (Keep.of (.inr (.inl rfl)) hs3 hb3))
  clear hg3 hs3 hb3 hrowB HR1 HO3B HK1 hc4 hO4
  have hsh3 : ∃ g3 cap3, v3 = .slice (some ⟨g3, 0, none⟩) n1 cap3 ∧ r ≤ g3 := by
    rcases hown3.2 with ⟨_, h0⟩ | ⟨g3, cap3, cur, e, hbg, _⟩
    · omega
    · exact ⟨g3, cap3, e, hbg⟩
  obtain ⟨g3, cap3, rfl, hrg3⟩ := hsh3
  have hc4 := hrow3.cell (j := 4) rfl
  have hf4 := hrow3.frozen (j := 4)
  obtain ⟨hrow4, hs4, hb4⟩ := set45 hrow3 (j := 4) (.slice (some ⟨g3, 0, none⟩) n1 cap3)
  have hsort := sort13 I r g3 n1 cap3 _ HI.out (by omega) (hs4.owns (by decide) hown3)
  have HX : Hid (∀ w5, (w3.setCell ⟨r, 4, none⟩ (.slice (some ⟨g3, 0, none⟩) n1 cap3)).grownBy w5 (some g3) → w5.ownsRow r 3 1 (.slice (some ⟨g3, 0, none⟩) n1 cap3) n1 ((srt I).map encN) →
      Row w5 r [.slice (some ⟨gR, 0, none⟩) n0 n0, kept, ord, .slice A3 q3 C3, .slice (some ⟨g3, 0, none⟩) n1 cap3] 45 ∧ Row w5 w.heap.size [.slice none 0 0, .slice none 0 0] 33 ∧ w5.ownsRow r 5 1 (.slice A3 q3 C3) q3 x3 ∧ Keep r w w5) := by
    intro w5 hg5 hown5
    have hs5 : StepO 3 (w3.setCell ⟨r, 4, none⟩ (.slice (some ⟨g3, 0, none⟩) n1 cap3)) w5 := StepO.of_grown hg5 (fun k hk => (owns_block (hs4.owns (by decide) hown3) hk).1)
    have hb5 : Below r (w3.setCell ⟨r, 4, none⟩ (.slice (some ⟨g3, 0, none⟩) n1 cap3)) w5 := below_own (Below.refl r _) hg5 hrg3 (by have := hb4.size; have := hrow3.lt; omega)
    exact ⟨hs5.row (by decide) hrow4, hs5.row (by decide) (hs4.row (by decide) HR3.out), hs5.owns (by decide) (hs4.owns (by decide) HO33.out), (HK3.out.trans (Keep.of (.inl rfl) hs4 hb4)).trans (Keep.of (.inr (.inl rfl)) hs5 hb5)⟩
  clear hrow3 hrow4 hs4 hb4 hown3
  go_wp2_with (go_at_call 13; refine hsort.mono ?_; rintro e w5 ⟨rfl, hown5, hg5⟩; obtain ⟨hrow5, hR5, hO5, hK5⟩ := HX.out w5 hg5 hown5; have c53 := hrow5.cell (j := 3) rfl; have f53 := hrow5.frozen (j := 3); have c54 := hrow5.cell (j := 4) rfl)
  obtain ⟨hrow6, hs6, hb6⟩ := set45 hrow5 (j := 3) (.slice A3 0 C3)
  have hO36 := hs6.owns (by decide) (owns0 hO5)
  have hO46 := hs6.owns (by decide) hown5
  have HR6 := hide (hs6.row (by decide) hR5)
  have HK6 := hide (hK5.trans (Keep.of (.inl rfl) hs6 hb6))
  simp only [List.set_cons_zero, List.set_cons_succ] at hrow6
  clear hs6 hb6 hrow5 hR5 hO5 hK5 hown5 c53 f53 c54 hc4 hf4 HX
  go_loopw [53] (fun vi wr => ∃ (i p : Nat) (kv : Value), vi = .int .i64 i ∧ i ≤ n1 ∧ p ≤ 2 * i ∧ (0 < i → 0 < p) ∧ Row wr r [.slice (some ⟨gR, 0, none⟩) n0 n0, kept, ord, kv, .slice (some ⟨g3, 0, none⟩) n1 cap3] 45 ∧ wr.ownsRow r 5 1 kv p (byt (((srt I).take i).flatMap uvN)) ∧ wr.ownsRow r 3 1 (.slice (some ⟨g3, 0, none⟩) n1 cap3) n1 ((srt I).map encN) ∧ Hid (Row wr w.heap.size [.slice none 0 0, .slice none 0 0] 33) ∧ Hid (Keep r w wr)) (fun vi _ => n1 - (intOf vi).toNat)
  case atStart => exact ⟨0, 0, _, rfl, Nat.zero_le _, Nat.zero_le _, fun h => by omega, hrow6, hO36, hO46, HR6, HK6⟩
  case round =>
    clear hrow6 hO36 hO46 HR6 HK6 hg5 hsort w5
    obtain ⟨i, p, kv, rfl, hin, hp, hip, hrow, hO3, hO4, HR, HKK⟩ := hrel
    by_cases hi0 : i < n1
    · have hxl := srt_lt HI.out HLT.out hi0
      have HT := hide (key_take (srt I) i (by rw [srt_length, HI.out]; exact hi0))
      have hcx : wr.cell? ⟨g3, i, none⟩ = some (.int .i64 (((srt I).getD i 0 : Nat) : Int)) := by
        rw [hO4.cellAt i (by omega)]
        simp [encN, show i < (srt I).length by rw [srt_length, HI.out]; exact hi0]
      generalize (srt I).getD i 0 = x at hxl HT hcx
      have hwx : IntKind.u64.wrap (x : Int) = (x : Int) := by simp [IntKind.wrap, IntKind.bits, IntKind.signed]; omega
      have c3 := hrow.cell (j := 3) rfl
      have hiz : (i : Int) < (n1 : Int) := by omega
      have huv := uv_any r p x (by omega) kv _ wr hO3 (Nat.le_of_lt hrow.lt) (by omega)
      have HX : Hid (∀ w7, StepO 5 wr w7 → Below r wr w7 → Row w7 r [.slice (some ⟨gR, 0, none⟩) n0 n0, kept, ord, kv, .slice (some ⟨g3, 0, none⟩) n1 cap3] 45 ∧ Row w7 w.heap.size [.slice none 0 0, .slice none 0 0] 33 ∧ w7.ownsRow r 3 1 (.slice (some ⟨g3, 0, none⟩) n1 cap3) n1 ((srt I).map encN) ∧ Keep r w w7) :=
        fun w7 h1 h2 => ⟨h1.row (by decide) hrow, h1.row (by decide) HR.out, h1.owns (by decide) hO4, HKK.out.trans (Keep.of (.inr (.inr rfl)) h1 h2)⟩
      clear hrow hO3 hO4 HR HKK
      go_wp2_with (go_at_call 17; refine huv.mono ?_; rintro e w7 ⟨kv2, rfl, hO7, hs7, hb7⟩; obtain ⟨A7, C7, rfl⟩ := owns_shape hO7; obtain ⟨hrow7, hR7, hO47, hK7⟩ := HX.out w7 hs7 hb7; have c73 := hrow7.cell (j := 3) rfl; have f73 := hrow7.frozen (j := 3))
      obtain ⟨hrow8, hs8, hb8⟩ := set45 hrow7 (j := 3) (.slice A7 (p + (uvN x).length) C7)
      simp only [List.set_cons_zero, List.set_cons_succ] at hrow8
      have hO38 := hs8.owns (by decide) hO7
      rw [← HT.out] at hO38
      have hO48 := hs8.owns (by decide) hO47
      have HR8 := hide (hs8.row (by decide) hR7)
      have HK8 := hide (hK7.trans (Keep.of (.inl rfl) hs8 hb8))
      have hl1 := uvN_len x
      have hl2 := uvN_pos x
      clear hs8 hb8 hrow7 hR7 hO47 hK7 hO7 hs7 hb7 c73 f73 huv HX
      go_roundw
      case rel => exact ⟨i + 1, p + (uvN x).length, _, by go_num, by omega, by omega, fun _ => by omega, hrow8, hO38, hO48, HR8, HK8⟩
      case measure => simp [intOf]; omega
    · obtain rfl : i = n1 := by omega
      have hfull : (srt I).take i = srt I := List.take_of_length_le (by rw [srt_length, HI.out]; exact Nat.le_refl _)
      rw [hfull] at hO3
      have hpp := hip (by omega)
      have hsh3 : ∃ gk capk, kv = .slice (some ⟨gk, 0, none⟩) p capk := by
        rcases hO3.2 with ⟨_, h0⟩ | ⟨gk, capk, cur, e, _⟩
        · omega
        · exact ⟨gk, capk, e⟩
      obtain ⟨gk, capk, rfl⟩ := hsh3
      have c1 := hrow.cell (j := 1) rfl
      have c3 := hrow.cell (j := 3) rfl
      have hrw := hrow.lt
      have v1 : ∀ w' : World, (∀ k : Nat, wr.heap[k]? ≠ none → w'.heap[k]? = wr.heap[k]?) → (convert 23 9 (.slice (some ⟨gk, 0, none⟩) p capk)).run Yba.prog w' = .ok (.string (strOf ((srt I).flatMap uvN))) w' := by
        intro w' h'
        refine conv_key (B := r) ⟨hO3.1, ?_⟩
        rcases hO3.2 with h1 | ⟨g, cap, cur, e1, e2, e3, e4⟩
        · exact .inl h1
        · exact .inr ⟨g, cap, cur, e1, e2, (h' g (by rw [e3]; simp)).trans e3, e4⟩
      have v2 := v1 wr.drew (fun _ _ => rfl)
      have v3 : ∀ o, (convert 23 9 (.slice (some ⟨gk, 0, none⟩) p capk)).run Yba.prog ((wr.alloc o).drew) = .ok (.string (strOf ((srt I).flatMap uvN))) ((wr.alloc o).drew) := fun o => v1 _ (fun k hk => Below.heap_alloc wr o k (by
        rcases Nat.lt_or_ge k wr.heap.size with h | h
        · exact h
        · exact absurd (Array.getElem?_eq_none h) hk))
      clear v1
      generalize eK : strOf ((srt I).flatMap uvN) = K at v2 v3
      have HEK := hide eK
      clear eK
      rcases HK.out with ⟨rfl, rfl⟩ | ⟨M, aP, mP, cP, rfl, hM⟩
      · have l1 := look_nil K
        have HO3' := hide hO3
        have HO4' := hide hO4
        have HROW' := hide hrow
        clear hO3 hO4 hrow
        go_wp2
        go_region
        have hsA : ∀ T, StepO T wr ((wr.alloc (.cells #[.slice none 0 0, .slice none 0 0] 33)).drew) := fun T => (StepO.alloc T wr _).trans (StepO.drew T _ 1)
        have HK2 : Hid (Keep r w ((wr.alloc (.cells #[.slice none 0 0, .slice none 0 0] 33)).drew)) := (HKK.out.alloc (by omega) _).drew 1
        have hrowC := (hsA 0).row (by decide) HROW'.out
        have HO3C := hide ((hsA 0).owns (by decide) HO3'.out)
        have HO4C := hide ((hsA 0).owns (by decide) HO4'.out)
        have HRC := hide ((hsA 0).row (by decide) HR.out)
        clear hsA l1 v2 v3 c1 c3 HROW' HO3' HO4' HR HKK hrw
        generalize (wr.alloc (.cells #[.slice none 0 0, .slice none 0 0] 33)).drew = wC at *
        have HRW := hide (HROWS.out.keep HK2.out)
        obtain ⟨iz2, ji2, jz02, jz12, jz22⟩ := info_parts info38
        go_wp2
        go_loopw [9, 85] (fun v vj wt => ∃ (j k : Nat) (us : List Value), vj = .int .i64 j ∧ j ≤ i ∧ j ≤ k ∧ k ≤ j * 256 ∧ wt.ownsRow wC.heap.size 38 1 v k us ∧ Hid (Vals wt us (tailsOf L (I.take j))) ∧ Below wC.heap.size wC wt) (fun _ vj _ => i - (intOf vj).toNat)
        case atStart => exact ⟨0, 0, [], rfl, Nat.zero_le _, Nat.zero_le _, Nat.zero_le _, World.ownsRow_nil _ _ _ _, Vals.nil _, Below.refl _ _⟩
        case round =>
          rename World => wq
          obtain ⟨j, k, us, rfl, hji, hjk, hk, hown, HV, hbel⟩ := hrel
          by_cases hj0 : j < i
          · have hx := HLT.out j hj0
            have hcx := (hbel.cell (p := ⟨b, off + j, none⟩) (by have := HK2.out.size; show b < wC.heap.size; omega)).trans ((HK2.out.bel.cell (p := ⟨b, off + j, none⟩) hb).trans (HIN.out j hj0))
            have HT := hide (tails_take L I j (by rw [HI.out]; exact hj0))
            generalize I.getD j 0 = x at hx hcx HT
            obtain ⟨csx, hrx, hlx, hvx⟩ := HRW.out.below hbel
            obtain ⟨vx, evx, gx, cx, usx, mox, rfl, hrg, hlg, hmg, hvg⟩ := hvx x hx
            have cvx := hrx.cell evx
            have c0 := (hrowC.below hbel).cell (j := 0) rfl
            have hxz : (x : Int) < (n0 : Int) := by omega
            have hjz : (j : Int) < (i : Int) := by omega
            have hRl := restsOf_le (L.getD x []) (HLI.out x)
            have hRp := restsOf_pos (L.getD x [])
            have HVG := hide hvg
            have HRG := hide hrg
            clear hrx hlx hvx evx hlg hmg hvg hrg
            generalize eR : restsOf (L.getD x []) = Rx at hRl hRp HVG HT cvx
            clear eR
            go_wp2_with (at_builtin; refine wpList_append_own _ rfl (.tmp 89) (.tmp 97) 39 rfl wC.heap.size 38 iz2 _ 1 24 Yba.underlying39 ji2 jz02 jz12 jz22 rfl (by decide) _ k us rfl hown ⟨gx, 0, none⟩ Rx.length cx usx rfl ?hn0 ?hn1 ?hn2 ?hn3 ?hn4 hbel.size ?_)
            case hn0 => rw [HVG.out.1, Nat.mul_one]
            case hn1 =>
              intro t u hu
              rw [Addr.add_mid, Nat.zero_add]
              exact HRG.out.cell (by rw [List.getElem?_append_left (List.getElem?_eq_some_iff.1 hu).1]; exact hu)
            case hn2 =>
              intro u hu
              obtain ⟨t, ht, rfl⟩ := List.getElem_of_mem hu
              obtain ⟨u', e', hh, ss, rfl, _⟩ := HVG.out.2 t (by rw [← HVG.out.1]; exact ht)
              rw [List.getElem?_eq_getElem ht] at e'
              injection e' with e'
              rw [e']
              rfl
            case hn3 => unfold maxLen; omega
            case hn4 => omega
            intro v' wz hown' hgrow _
            have hsz : Step 38 _ wz := Step.of_grown hgrow (fun k hk => (owns_block hown hk).1)
            have HV2 : Hid (Vals wz (us ++ usx) (tailsOf L (I.take (j + 1)))) := by
              rw [HT.out]
              exact (HV.out.append HVG.out).step hsz (by decide) (by decide)
            have hb2 : Below wC.heap.size wC wz := hbel.grown hgrow hbel.size (fun k hk => (owns_block hown hk).2)
            clear hsz hgrow hown HV hbel hcx cvx c0 HVG HRG
            go_wp2
            go_roundw
            case rel => exact ⟨j + 1, k + Rx.length, us ++ usx, by go_num, by omega, by omega, by omega, hown', HV2, hb2⟩
            case measure => simp [intOf]; omega
          · obtain rfl : j = i := by omega
            have hfull : I.take j = I := List.take_of_length_le (by rw [HI.out]; exact Nat.le_refl _)
            rw [hfull] at HV
            have hlen : k = (tailsOf L I).length := by have := hown.1; rw [HV.out.1, Nat.mul_one] at this; omega
            have hle := tails_le L HLI.out I
            rw [HI.out] at hle
            obtain ⟨AT, CT, rfl⟩ := owns_shape hown
            have hRR : Rests wq (.slice AT k CT) (tailsOf L I) := Rests.of_owns hown (by omega) HV.out
            have hparts := parts_any (tailsOf L I) (.slice AT k CT) wq hRR (by omega) (by omega) (tails_sm L HLV.out I) (by omega)
            have HK4 : Hid (Keep r w wq) := ⟨HK2.out.bel.trans (hbel.mono (by have := HK2.out.size; omega)), fun k o ho hk => by
              have h1 := HK2.out.blk k o ho hk
              exact (hbel.block k (Array.getElem?_eq_some_iff.1 h1).1).trans h1⟩
            have HX : Hid (∀ w5, Below wq.heap.size wq w5 → Row w5 r [.slice (some ⟨gR, 0, none⟩) n0 n0, .map none, .slice none 0 0, .slice (some ⟨gk, 0, none⟩) p capk, .slice (some ⟨g3, 0, none⟩) j cap3] 45 ∧ Row w5 w.heap.size [.slice none 0 0, .slice none 0 0] 33 ∧
                w5.ownsRow r 5 1 (.slice (some ⟨gk, 0, none⟩) p capk) p (byt ((srt I).flatMap uvN)) ∧ w5.ownsRow r 3 1 (.slice (some ⟨g3, 0, none⟩) j cap3) j ((srt I).map encN) ∧ Keep r w w5) := by
              intro w5 h5
              have hs : ∀ (k : Nat) (o : Obj), wC.heap[k]? = some o → w5.heap[k]? = some o := fun k o h => by
                have h1 := (hbel.block k (Array.getElem?_eq_some_iff.1 h).1).trans h
                exact (h5.block k (Array.getElem?_eq_some_iff.1 h1).1).trans h1
              have hs0 : StepO 0 wC w5 := ⟨h5.os.trans hbel.os, h5.tape.trans hbel.tape, h5.output.trans hbel.output, Nat.le_trans hbel.size h5.size, fun k o _ h => hs k o h⟩
              refine ⟨hs _ _ hrowC, hs _ _ HRC.out, hs0.owns (by decide) HO3C.out, hs0.owns (by decide) HO4C.out, HK4.out.bel.trans (h5.mono (by have := HK4.out.size; omega)), fun k o ho hk => ?_⟩
              have h1 := HK4.out.blk k o ho hk
              exact (h5.block k (Array.getElem?_eq_some_iff.1 h1).1).trans h1
            clear hlen hle hRR hown HV hbel hfull hrowC HRC HO3C HO4C HK2 HRW
            go_wp2_with (go_at_call 18; refine hparts.mono ?_; rintro e w5 ⟨aU, mU, cU, U, rfl, hm, hA, hU, hb5⟩; obtain ⟨hrow5, hR5, hO35, hO45, hK5⟩ := HX.out w5 hb5; have c51 := hrow5.cell (j := 1) rfl; have f51 := hrow5.frozen (j := 1); have c52 := hrow5.cell (j := 2) rfl; have c53 := hrow5.cell (j := 3) rfl; have hr5lt := hrow5.lt; have hcv := fun u o1 o2 => conv_W6 hrow5 hO35 u o1 o2; simp only [HEK.out] at hcv)
            --27
            obtain ⟨hrow6, hs6, hb6⟩ := set45 hrow5 (j := 1) (.map (some (w5.heap.size + 1)))
            simp only [List.set_cons_zero, List.set_cons_succ] at hrow6
            have hsz6 : (w5.setCell ⟨r, 1, none⟩ (.map (some (w5.heap.size + 1)))).heap.size = w5.heap.size := by simp
            have hrowF := row_alloc (row_alloc hrow6 (.cells #[.slice none 0 0, .slice aU mU cU] 33)) (.map #[] 0)
            have hMF : (((w5.setCell ⟨r, 1, none⟩ (.map (some (w5.heap.size + 1)))).alloc (.cells #[.slice none 0 0, .slice aU mU cU] 33)).alloc (.map #[] 0)).heap[w5.heap.size + 1]? = some (.map #[] 0) := by
              have := heap_alloc_new ((w5.setCell ⟨r, 1, none⟩ (.map (some (w5.heap.size + 1)))).alloc (.cells #[.slice none 0 0, .slice aU mU cU] 33)) (.map #[] 0)
              simpa using this
            have hTF : Row (((w5.setCell ⟨r, 1, none⟩ (.map (some (w5.heap.size + 1)))).alloc (.cells #[.slice none 0 0, .slice aU mU cU] 33)).alloc (.map #[] 0)) w5.heap.size [.slice none 0 0, .slice aU mU cU] 33 := by
              have := row_alloc (row_new (w5.setCell ⟨r, 1, none⟩ (.map (some (w5.heap.size + 1)))) [.slice none 0 0, .slice aU mU cU] 33) (.map #[] 0)
              rw [hsz6] at this
              exact this
            have HRF := hide (row_alloc (row_alloc (hs6.row (by decide) hR5) (.cells #[.slice none 0 0, .slice aU mU cU] 33)) (.map #[] 0))
            have HO3F := hide (((hs6.owns (by decide) hO35).alloc (.cells #[.slice none 0 0, .slice aU mU cU] 33)).alloc (.map #[] 0))
            have HO4F := hide (((hs6.owns (by decide) hO45).alloc (.cells #[.slice none 0 0, .slice aU mU cU] 33)).alloc (.map #[] 0))
            have hk6 := hK5.trans (Keep.of (.inl rfl) hs6 hb6)
            have HKF := hide ((hk6.alloc (by rw [hsz6]; omega) (.cells #[.slice none 0 0, .slice aU mU cU] 33)).alloc (by simp; omega) (.map #[] 0))
            have HAF := hide (((hA.step hs6.step (by decide)).step (Step.alloc 45 _ (.cells #[.slice none 0 0, .slice aU mU cU] 33)) (by decide)).step (Step.alloc 45 _ (.map #[] 0)) (by decide))
            have hRl5 := hR5.lt
            have HU := hide hU
            have HMM := hide hm
            clear hcv hrow6 hs6 hb6 hsz6 hk6 c51 f51 c52 c53 hrow5 hR5 hO35 hO45 hK5 hA hU hm hb5 hparts HX HK4
            have hrM : r ≠ w5.heap.size + 1 := by omega
            have hTM : w5.heap.size ≠ w5.heap.size + 1 := by omega
            have hwM : w.heap.size ≤ w5.heap.size + 1 := by omega
            have hwT : w.heap.size ≠ w5.heap.size := by omega
            have hwM2 : w.heap.size ≠ w5.heap.size + 1 := by omega
            generalize ((w5.setCell ⟨r, 1, none⟩ (.map (some (w5.heap.size + 1)))).alloc (.cells #[.slice none 0 0, .slice aU mU cU] 33)).alloc (.map #[] 0) = wF at *
            generalize w5.heap.size + 1 = M at *
            generalize w5.heap.size = T at *
            have hS0 : S27 r T M aU mU cU wF.drew := s27 (X := wF.drew) hrowF rfl hTF
            have hS1 : S27 r T M aU mU cU (wF.drew.alloc (.cells #[.string K] 9)) := s27 (row_alloc (w := wF.drew) hrowF _) rfl (row_alloc (w := wF.drew) hTF _)
            have cF2 := hrowF.cell (j := 2) rfl
            have hFlt := hrowF.lt
            refine wp_region_held_drew (S := S27 r T M aU mU cU) (by kernel_rfl) (by exact hS0) (fun hHeld => ?_)
            refine take_to 0 140 (.pointer (some ⟨r, 0, none⟩)) rfl rfl (by kernel_rfl) (by kernel_rfl) (by kernel_rfl) (fun _ _ _ h => h) (Or.inl ⟨by rfl, by intro w' hSw; obtain ⟨s1, s2, s3⟩ := hSw; go_simp⟩) (by first | trivial | assumption) ?_
            simp only [Act.put, List.setIfInBounds_toArray, List.set_cons_zero, List.set_cons_succ]
            refine take_to 1 141 (.pointer (some ⟨r, 0, none⟩)) rfl rfl (by kernel_rfl) (by kernel_rfl) (by kernel_rfl) (fun _ _ _ h => h) (Or.inl ⟨by rfl, by intro w' hSw; obtain ⟨s1, s2, s3⟩ := hSw; go_simp⟩) (by first | trivial | assumption) ?_
            simp only [Act.put, List.setIfInBounds_toArray, List.set_cons_zero, List.set_cons_succ]
            refine take_to 2 142 (.pointer (some ⟨r, 1, none⟩)) rfl rfl (by kernel_rfl) (by kernel_rfl) (by kernel_rfl) (fun _ _ _ h => h) (Or.inl ⟨by rfl, by intro w' hSw; obtain ⟨s1, s2, s3⟩ := hSw; go_simp⟩) (by first | trivial | assumption) ?_
            simp only [Act.put, List.setIfInBounds_toArray, List.set_cons_zero, List.set_cons_succ]
            refine take_to 3 143 (.map (some M)) rfl rfl (by kernel_rfl) (by kernel_rfl) (by kernel_rfl) (fun _ _ _ h => h) (Or.inl ⟨by rfl, by intro w' hSw; obtain ⟨s1, s2, s3⟩ := hSw; go_simp⟩) (by first | trivial | assumption) ?_
            simp only [Act.put, List.setIfInBounds_toArray, List.set_cons_zero, List.set_cons_succ]
            refine take_to 4 144 (.string K) rfl rfl (by kernel_rfl) (by kernel_rfl) (by kernel_rfl) (fun _ _ _ h => h) (Or.inl ⟨by rfl, by intro w' hSw; obtain ⟨s1, s2, s3⟩ := hSw; go_simp⟩) (by first | trivial | assumption) ?_
            simp only [Act.put, List.setIfInBounds_toArray, List.set_cons_zero, List.set_cons_succ]
            refine take_to 5 145 (.pointer (some ⟨r, 0, none⟩)) rfl rfl (by kernel_rfl) (by kernel_rfl) (by kernel_rfl) (fun _ _ _ h => h) (Or.inl ⟨by rfl, by intro w' hSw; obtain ⟨s1, s2, s3⟩ := hSw; go_simp⟩) (by first | trivial | assumption) ?_
            simp only [Act.put, List.setIfInBounds_toArray, List.set_cons_zero, List.set_cons_succ]
            refine take_to 6 146 (.agg #[.slice none 0 0, .slice aU mU cU]) rfl rfl (by kernel_rfl) (by kernel_rfl) (by kernel_rfl) (fun _ _ _ h => h) (Or.inl ⟨by rfl, by intro w' hSw; obtain ⟨s1, s2, s3⟩ := hSw; go_simp⟩) (by first | trivial | assumption) ?_
            simp only [Act.put, List.setIfInBounds_toArray, List.set_cons_zero, List.set_cons_succ]
            refine take_to 7 147 (.pointer (some ⟨r, 0, none⟩)) rfl rfl (by kernel_rfl) (by kernel_rfl) (by kernel_rfl) (fun _ _ _ h => h) (Or.inl ⟨by rfl, by intro w' hSw; obtain ⟨s1, s2, s3⟩ := hSw; go_simp⟩) (by first | trivial | assumption) ?_
            simp only [Act.put, List.setIfInBounds_toArray, List.set_cons_zero, List.set_cons_succ]
            refine take_to 8 148 (.pointer (some ⟨r, 0, none⟩)) rfl rfl (by kernel_rfl) (by kernel_rfl) (by kernel_rfl) (fun _ _ _ h => h) (Or.inl ⟨by rfl, by intro w' hSw; obtain ⟨s1, s2, s3⟩ := hSw; go_simp⟩) (by first | trivial | assumption) ?_
            simp only [Act.put, List.setIfInBounds_toArray, List.set_cons_zero, List.set_cons_succ]
            refine take_to 9 149 (.pointer (some ⟨r, 2, none⟩)) rfl rfl (by kernel_rfl) (by kernel_rfl) (by kernel_rfl) (fun _ _ _ h => h) (Or.inl ⟨by rfl, by intro w' hSw; obtain ⟨s1, s2, s3⟩ := hSw; go_simp⟩) (by first | trivial | assumption) ?_
            simp only [Act.put, List.setIfInBounds_toArray, List.set_cons_zero, List.set_cons_succ]
            refine take_to 11 151 (.string K) rfl rfl (by kernel_rfl) (by kernel_rfl) (by kernel_rfl) (fun _ _ _ h => h) (Or.inl ⟨by rfl, by intro w' hSw; obtain ⟨s1, s2, s3⟩ := hSw; go_simp⟩) (by first | trivial | assumption) ?_
            simp only [Act.put, List.setIfInBounds_toArray, List.set_cons_zero, List.set_cons_succ]
            refine wpAnyH_ready (rs := [10, 12]) (by kernel_rfl) (by simp) (AllReadyH.cons rfl (fun K' hK => ?_) (AllReadyH.cons rfl (fun K' hK => ?_) AllReadyH.nil))
            · rw [if_pos (by rfl)]
              go_wp2
              refine hK.out _ _ (by exact hS0) (fun _ => ?_)
              clear hK K'
              refine wpAnyH_ready (rs := [12]) (by kernel_rfl) (by simp) (AllReadyH.cons rfl (fun K' hK => ?_) AllReadyH.nil)
              rw [if_pos (by rfl)]
              go_wp2
              refine hK.out _ _ (by exact hS1) (fun _ => ?_)
              clear hK K'
              refine wpAnyH_ready (rs := [13]) (by kernel_rfl) (by simp) (AllReadyH.cons rfl (fun K' hK => ?_) AllReadyH.nil)
              rw [if_pos (by rfl)]
              refine wp_app43 (.tmp 150) (.tmp 152) 153 (by rfl) (by rfl) (by rfl) wF.heap.size K (by rfl) (by simp) ?_
              intro aO cO X2 hg2
              simp only [Act.put, List.setIfInBounds_toArray, List.set_cons_zero, List.set_cons_succ]
              have hF2 := f27 hg2 hMF
              refine hK.out _ _ (by exact s27 (hF2.row hrowF hrM) rfl (hF2.row hTF hTM)) (fun hX2 => ?_)
              clear hK K'
              refine wpAnyH_ready (rs := [14]) (by kernel_rfl) (by simp) (AllReadyH.cons rfl (fun K' hK => ?_) AllReadyH.nil)
              rw [if_pos (by rfl)]
              refine wp_entryF (.tmp 143) (.tmp 144) 154 (by rfl) (by rfl) M K (by rfl) (by rfl) hF2 ?_
              intro X3 hF3
              simp only [Act.put, List.setIfInBounds_toArray, List.set_cons_zero, List.set_cons_succ]
              refine hK.out _ _ (by exact s27 (hF3.row hrowF hrM) rfl (hF3.row hTF hTM)) (fun hX3 => ?_)
              clear hK K'
              refine take_to 15 155 (.int .i64 0) rfl rfl (by kernel_rfl) (by kernel_rfl) (by kernel_rfl) (fun _ _ _ h => h) (Or.inl ⟨by rfl, by intro w' hSw; obtain ⟨s1, s2, s3⟩ := hSw; go_simp⟩) (by first | trivial | assumption) ?_
              simp only [Act.put, List.setIfInBounds_toArray, List.set_cons_zero, List.set_cons_succ]
              refine wpAnyH_ready (rs := [16]) (by kernel_rfl) (by simp) (AllReadyH.cons rfl (fun K' hK => ?_) AllReadyH.nil)
              rw [if_pos (by rfl)]
              refine wp_estoreF (.tmp 143) (.tmp 155) (.tmp 146) (by rfl) (by rfl) M K _ _ (by rfl) (by rfl) (by rfl) hF3 ?_
              intro X4 hF4
              refine hK.out _ _ (by exact s27 (hF4.row hrowF hrM) rfl (hF4.row hTF hTM)) (fun hX4 => ?_)
              clear hK K'
              refine take_to 17 156 (.pointer (some ⟨r, 0, none⟩)) rfl rfl (by kernel_rfl) (by kernel_rfl) (by kernel_rfl) (fun _ _ _ h => h) (Or.inl ⟨by rfl, by intro w' hSw; obtain ⟨s1, s2, s3⟩ := hSw; go_simp⟩) (by first | trivial | assumption) ?_
              simp only [Act.put, List.setIfInBounds_toArray, List.set_cons_zero, List.set_cons_succ]
              refine take_to 18 157 (.pointer (some ⟨r, 2, none⟩)) rfl rfl (by kernel_rfl) (by kernel_rfl) (by kernel_rfl) (fun _ _ _ h => h) (Or.inl ⟨by rfl, by intro w' hSw; obtain ⟨s1, s2, s3⟩ := hSw; go_simp⟩) (by first | trivial | assumption) ?_
              simp only [Act.put, List.setIfInBounds_toArray, List.set_cons_zero, List.set_cons_succ]
              clear hX2 hX3 hF3 hF2 hg2
              have hrow4 := hF4.row hrowF hrM
              have c42 := hrow4.cell (j := 2) rfl
              have f42 := hrow4.frozen (j := 2)
              refine wpAnyH_ready (rs := [19]) (by kernel_rfl) (by simp) (AllReadyH.cons rfl (fun K' hK => ?_) AllReadyH.nil)
              rw [if_pos (by rfl)]
              go_wp2
              obtain ⟨hrow7, hs7, hb7⟩ := set45 hrow4 (j := 2) (.slice aO 1 cO)
              simp only [List.set_cons_zero, List.set_cons_succ] at hrow7
              have hT7 := hs7.row (by decide) (hF4.row hTF hTM)
              have HR7 := hide (hs7.row (by decide) (hF4.row HRF.out hwM2))
              refine hK.out _ _ (by exact s27 hrow7 rfl hT7) (fun _ => ?_)
              clear hK K'
              refine wpAnyH_done (by kernel_rfl) ?_ _
              have HO37 := hide (hs7.owns (by decide) (hF4.owns hMF HO3F.out))
              have HO47 := hide (hs7.owns (by decide) (hF4.owns hMF HO4F.out))
              have HK7 := hide ((hF4.keep HKF.out hwM (by omega)).trans (Keep.of (.inl rfl) hs7 hb7))
              have HA7 := hide ((hF4.argT hMF HAF.out).step hs7.step (by decide))
              have HM7 : Hid (Map1 (X4.setCell ⟨r, 2, none⟩ (.slice aO 1 cO)) M K (.agg #[.slice none 0 0, .slice aU mU cU])) := hs7.block M _ (fun cs e => by cases e) hF4.map
              have HROW7 := hide hrow7
              have cT0 := hT7.cell (j := 0) rfl
              have cT1 := hT7.cell (j := 1) rfl
              have cR0 := HR7.out.cell (j := 0) rfl
              have cR1 := HR7.out.cell (j := 1) rfl
              have fR0 := HR7.out.frozen (j := 0)
              have fR1 := HR7.out.frozen (j := 1)
              have hRlt := HR7.out.lt
              clear hrow7 hs7 hb7 hT7 hrow4 c42 f42 hX4 hF4 cF2 hrowF hTF hMF hS0 hS1 hHeld
              generalize X4.setCell ⟨r, 2, none⟩ (.slice aO 1 cO) = X7 at *
              go_wp2
              obtain ⟨hs9, hb9⟩ := fin33 HR7.out (show r ≤ w.heap.size by omega) (.slice none 0 0) (.slice aU mU cU)
              refine bodyPost_ret (v := .agg #[.slice none 0 0, .slice aU mU cU]) (by simp [results, Yba.results8, go_sem, hRlt, cR0, cR1]) rfl ?_
              refine ⟨gk, p, capk, g3, cap3, hs9.owns (by decide) HO37.out, hs9.owns (by decide) HO47.out, HK7.out.fin (fin33g HR7.out (.slice none 0 0) (.slice aU mU cU)) (Nat.le_refl _) hb9, fun _ => ⟨M, aO, cO, aU, mU, cU, U, rfl, HMM.out, HA7.out.step hs9.step (by decide), fun x => ?_, ?_, hs9.row (by decide) HROW7.out⟩, fun M' aP' mP' cP' h => by simp at h⟩
              · rw [HU.out x, tails_has]
              · rw [HEK.out]
                exact hs9.block M _ (fun cs e => by cases e) HM7.out
            · rw [if_pos (by rfl)]
              go_wp2
              refine hK.out _ _ (by exact hS1) (fun _ => ?_)
              clear hK K'
              refine wpAnyH_ready (rs := [10]) (by kernel_rfl) (by simp) (AllReadyH.cons rfl (fun K' hK => ?_) AllReadyH.nil)
              rw [if_pos (by rfl)]
              go_wp2
              refine hK.out _ _ (by exact hS1) (fun _ => ?_)
              clear hK K'
              refine wpAnyH_ready (rs := [13]) (by kernel_rfl) (by simp) (AllReadyH.cons rfl (fun K' hK => ?_) AllReadyH.nil)
              rw [if_pos (by rfl)]
              refine wp_app43 (.tmp 150) (.tmp 152) 153 (by rfl) (by rfl) (by rfl) wF.heap.size K (by rfl) (by simp) ?_
              intro aO cO X2 hg2
              simp only [Act.put, List.setIfInBounds_toArray, List.set_cons_zero, List.set_cons_succ]
              have hF2 := f27 hg2 hMF
              refine hK.out _ _ (by exact s27 (hF2.row hrowF hrM) rfl (hF2.row hTF hTM)) (fun hX2 => ?_)
              clear hK K'
              refine wpAnyH_ready (rs := [14]) (by kernel_rfl) (by simp) (AllReadyH.cons rfl (fun K' hK => ?_) AllReadyH.nil)
              rw [if_pos (by rfl)]
              refine wp_entryF (.tmp 143) (.tmp 144) 154 (by rfl) (by rfl) M K (by rfl) (by rfl) hF2 ?_
              intro X3 hF3
              simp only [Act.put, List.setIfInBounds_toArray, List.set_cons_zero, List.set_cons_succ]
              refine hK.out _ _ (by exact s27 (hF3.row hrowF hrM) rfl (hF3.row hTF hTM)) (fun hX3 => ?_)
              clear hK K'
              refine take_to 15 155 (.int .i64 0) rfl rfl (by kernel_rfl) (by kernel_rfl) (by kernel_rfl) (fun _ _ _ h => h) (Or.inl ⟨by rfl, by intro w' hSw; obtain ⟨s1, s2, s3⟩ := hSw; go_simp⟩) (by first | trivial | assumption) ?_
              simp only [Act.put, List.setIfInBounds_toArray, List.set_cons_zero, List.set_cons_succ]
              refine wpAnyH_ready (rs := [16]) (by kernel_rfl) (by simp) (AllReadyH.cons rfl (fun K' hK => ?_) AllReadyH.nil)
              rw [if_pos (by rfl)]
              refine wp_estoreF (.tmp 143) (.tmp 155) (.tmp 146) (by rfl) (by rfl) M K _ _ (by rfl) (by rfl) (by rfl) hF3 ?_
              intro X4 hF4
              refine hK.out _ _ (by exact s27 (hF4.row hrowF hrM) rfl (hF4.row hTF hTM)) (fun hX4 => ?_)
              clear hK K'
              refine take_to 17 156 (.pointer (some ⟨r, 0, none⟩)) rfl rfl (by kernel_rfl) (by kernel_rfl) (by kernel_rfl) (fun _ _ _ h => h) (Or.inl ⟨by rfl, by intro w' hSw; obtain ⟨s1, s2, s3⟩ := hSw; go_simp⟩) (by first | trivial | assumption) ?_
              simp only [Act.put, List.setIfInBounds_toArray, List.set_cons_zero, List.set_cons_succ]
              refine take_to 18 157 (.pointer (some ⟨r, 2, none⟩)) rfl rfl (by kernel_rfl) (by kernel_rfl) (by kernel_rfl) (fun _ _ _ h => h) (Or.inl ⟨by rfl, by intro w' hSw; obtain ⟨s1, s2, s3⟩ := hSw; go_simp⟩) (by first | trivial | assumption) ?_
              simp only [Act.put, List.setIfInBounds_toArray, List.set_cons_zero, List.set_cons_succ]
              clear hX2 hX3 hF3 hF2 hg2
              have hrow4 := hF4.row hrowF hrM
              have c42 := hrow4.cell (j := 2) rfl
              have f42 := hrow4.frozen (j := 2)
              refine wpAnyH_ready (rs := [19]) (by kernel_rfl) (by simp) (AllReadyH.cons rfl (fun K' hK => ?_) AllReadyH.nil)
              rw [if_pos (by rfl)]
              go_wp2
              obtain ⟨hrow7, hs7, hb7⟩ := set45 hrow4 (j := 2) (.slice aO 1 cO)
              simp only [List.set_cons_zero, List.set_cons_succ] at hrow7
              have hT7 := hs7.row (by decide) (hF4.row hTF hTM)
              have HR7 := hide (hs7.row (by decide) (hF4.row HRF.out hwM2))
              refine hK.out _ _ (by exact s27 hrow7 rfl hT7) (fun _ => ?_)
              clear hK K'
              refine wpAnyH_done (by kernel_rfl) ?_ _
              have HO37 := hide (hs7.owns (by decide) (hF4.owns hMF HO3F.out))
              have HO47 := hide (hs7.owns (by decide) (hF4.owns hMF HO4F.out))
              have HK7 := hide ((hF4.keep HKF.out hwM (by omega)).trans (Keep.of (.inl rfl) hs7 hb7))
              have HA7 := hide ((hF4.argT hMF HAF.out).step hs7.step (by decide))
              have HM7 : Hid (Map1 (X4.setCell ⟨r, 2, none⟩ (.slice aO 1 cO)) M K (.agg #[.slice none 0 0, .slice aU mU cU])) := hs7.block M _ (fun cs e => by cases e) hF4.map
              have HROW7 := hide hrow7
              have cT0 := hT7.cell (j := 0) rfl
              have cT1 := hT7.cell (j := 1) rfl
              have cR0 := HR7.out.cell (j := 0) rfl
              have cR1 := HR7.out.cell (j := 1) rfl
              have fR0 := HR7.out.frozen (j := 0)
              have fR1 := HR7.out.frozen (j := 1)
              have hRlt := HR7.out.lt
              clear hrow7 hs7 hb7 hT7 hrow4 c42 f42 hX4 hF4 cF2 hrowF hTF hMF hS0 hS1 hHeld
              generalize X4.setCell ⟨r, 2, none⟩ (.slice aO 1 cO) = X7 at *
              go_wp2
              obtain ⟨hs9, hb9⟩ := fin33 HR7.out (show r ≤ w.heap.size by omega) (.slice none 0 0) (.slice aU mU cU)
              refine bodyPost_ret (v := .agg #[.slice none 0 0, .slice aU mU cU]) (by simp [results, Yba.results8, go_sem, hRlt, cR0, cR1]) rfl ?_
              refine ⟨gk, p, capk, g3, cap3, hs9.owns (by decide) HO37.out, hs9.owns (by decide) HO47.out, HK7.out.fin (fin33g HR7.out (.slice none 0 0) (.slice aU mU cU)) (Nat.le_refl _) hb9, fun _ => ⟨M, aO, cO, aU, mU, cU, U, rfl, HMM.out, HA7.out.step hs9.step (by decide), fun x => ?_, ?_, hs9.row (by decide) HROW7.out⟩, fun M' aP' mP' cP' h => by simp at h⟩
              · rw [HU.out x, tails_has]
              · rw [HEK.out]
                exact hs9.block M _ (fun cs e => by cases e) HM7.out
      · have hM2 := hM.keep HKK.out
        rw [HEK.out] at hM2
        have l1 := look_one K _ M wr.drew hM2
        have l2 : ∀ o, (Instr.lookup 42 (.map (some M)) (.string K) true).run Yba.prog ((wr.alloc o).drew) = .ok (.tuple #[.agg #[.slice none 0 0, .slice aP mP cP], .bool true]) ((wr.alloc o).drew) := fun o => look_one K _ M _ ((Below.heap_alloc wr o M (Array.getElem?_eq_some_iff.1 hM2).1).trans hM2)
        have HO3' := hide hO3
        have HO4' := hide hO4
        have HROW' := hide hrow
        have HM := hide hM
        have cR0 := HR.out.cell (j := 0) rfl
        have cR1 := HR.out.cell (j := 1) rfl
        have fR0 := HR.out.frozen (j := 0)
        have fR1 := HR.out.frozen (j := 1)
        have hRlt := HR.out.lt
        clear hO3 hO4 hrow hM hM2
        go_wp2
        go_region
        go_wp2
        obtain ⟨hs9, hb9⟩ := fin33 HR.out (show r ≤ w.heap.size by omega) (.slice none 0 0) (.slice aP mP cP)
        have hk9 := HKK.out.fin (fin33g HR.out (.slice none 0 0) (.slice aP mP cP)) (Nat.le_refl _) hb9
        have hO39 := hs9.owns (by decide) HO3'.out
        have hO49 := hs9.owns (by decide) HO4'.out
        have hrow9 := hs9.row (by decide) HROW'.out
        have hsA : ∀ T, StepO T ((wr.setCell ⟨w.heap.size, 0, none⟩ (.slice none 0 0)).setCell ⟨w.heap.size, 1, none⟩ (.slice aP mP cP)) ((((wr.setCell ⟨w.heap.size, 0, none⟩ (.slice none 0 0)).setCell ⟨w.heap.size, 1, none⟩ (.slice aP mP cP)).alloc (.cells #[.slice none 0 0, .slice aP mP cP] 33)).drew) := fun T => (StepO.alloc T _ _).trans (StepO.drew T _ 1)
        refine bodyPost_ret (v := .agg #[.slice none 0 0, .slice aP mP cP]) (by simp [results, Yba.results8, go_sem, hRlt, cR0, cR1]) rfl ?_
        refine ⟨gk, p, capk, g3, cap3, ?_, ?_, (hk9.alloc (Nat.le_trans (by omega) hk9.size) _).drew 1, fun h => by simp at h, fun M' aP' mP' cP' h1 h2 => ?_⟩
        · exact (hsA 0).owns (by decide) hO39
        · exact (hsA 0).owns (by decide) hO49
        · injection h1 with h1
          injection h1 with h1
          subst h1
          have := map1_same HM.out h2
          rw [this]
          exact ⟨rfl, (hsA 0).row (by decide) hrow9⟩
end Go.Proofs.Ybulkbaje
