/- What (*rests).of leans on: slices.Sort (13) of an owned row, s[:0], the key as a string, the map of one entry. -/
import Derived.Test.YbulkbajeUv
import Derived.Laws.BytesString
import Derived.MapKept
namespace Go.Proofs.Ybulkbaje
open Go.RowKit
set_option linter.unusedSimpArgs false
set_option linter.unusedVariables false

/-! ### sorted -/
def srtZ (I : List Nat) : List Int := (I.map fun i : Nat => (i : Int)).mergeSort fun x y => decide (x ≤ y)
def srt (I : List Nat) : List Nat := (srtZ I).map Int.toNat
theorem srtZ_perm (I : List Nat) : (srtZ I).Perm (I.map fun i : Nat => (i : Int)) := List.mergeSort_perm _ _
theorem srtZ_congr {I J : List Nat} (h : I.Perm J) : srtZ I = srtZ J := by
  have h1 : ∀ L : List Int, (L.mergeSort fun x y => decide (x ≤ y)).Pairwise (fun x y => x ≤ y) := fun L =>
    (List.pairwise_mergeSort (le := fun x y : Int => decide (x ≤ y)) (fun a b c h1 h2 => by simp at *; omega) (fun a b => by simp; omega) L).imp (fun h => by simpa using h)
  exact List.Perm.eq_of_pairwise (le := fun x y : Int => x ≤ y) (fun a b _ _ h1 h2 => by omega) (h1 _) (h1 _) (((srtZ_perm I).trans (h.map _)).trans (srtZ_perm J).symm)
theorem srt_congr {I J : List Nat} (h : I.Perm J) : srt I = srt J := by unfold srt; rw [srtZ_congr h]
theorem srt_cells (I : List Nat) : (srt I).map encN = (srtZ I).map (Value.int .i64) := by
  unfold srt
  rw [List.map_map]
  apply List.map_congr_left
  intro x hx
  obtain ⟨i, _, rfl⟩ := List.mem_map.1 ((srtZ_perm I).mem_iff.1 hx)
  simp [encN]
theorem srt_mem {I : List Nat} {x : Nat} (h : x ∈ srt I) : x ∈ I := by
  obtain ⟨y, hy, rfl⟩ := List.mem_map.1 h
  obtain ⟨i, hi, rfl⟩ := List.mem_map.1 ((srtZ_perm I).mem_iff.1 hy)
  simpa using hi
theorem srt_length (I : List Nat) : (srt I).length = I.length := by
  unfold srt
  rw [List.length_map, (srtZ_perm I).length_eq, List.length_map]

/-! ### slices.Sort of an owned row -/
theorem put_owned (F G more : List Value) (h : G.length = F.length) (enc : Int → Value) (zs : List Int) (hG : G = zs.map enc) : Go.Sort.putCells enc 0 zs.toArray (F ++ more).toArray = (G ++ more).toArray := by
  subst hG
  have hz : zs.length = F.length := by simpa using h
  apply Array.ext
  · simp [Go.Sort.putCells, hz]
  · intro t h1 h2
    have ht : t < (F ++ more).length := by simpa [Go.Sort.putCells] using h1
    by_cases hin : t < zs.length
    · simp [Go.Sort.putCells, hin]
    · simp only [Go.Sort.putCells, Array.getElem_mapIdx, List.size_toArray, Nat.zero_le, true_and, Nat.zero_add, hin, if_false, List.getElem_toArray]
      rw [List.getElem_append_right (by omega), List.getElem_append_right (by simp; omega)]
      simp [hz]
theorem sort13 (I : List Nat) (B g n cap : Nat) (w : World) (hI : I.length = n) (hn : n ≤ 100000) (hown : w.ownsRow B 3 1 (.slice (some ⟨g, 0, none⟩) n cap) n (I.map encN)) :
    Calls Yba.prog 13 #[.slice (some ⟨g, 0, none⟩) n cap] w fun e w' => e = .returned (.tuple #[]) ∧ w'.ownsRow B 3 1 (.slice (some ⟨g, 0, none⟩) n cap) n ((srt I).map encN) ∧ w.grownBy w' (some g) := by
  rcases hown.2 with ⟨h', _⟩ | ⟨g', cap', cur, h', hBg, hg, hnc, hcm, hsz, htake⟩
  · simp at h'
  simp only [Value.slice.injEq, Option.some.injEq, Addr.mk.injEq, and_true, true_and] at h'
  obtain ⟨rfl, rfl⟩ := h'
  have hlt : g < w.heap.size := (Array.getElem?_eq_some_iff.1 hg).1
  have hH : Go.Sort.Holds (Value.int .i64) w g 0 (I.map fun i : Nat => (i : Int)).toArray := by
    intro j hj
    have hj' : j < I.length := by simpa using hj
    refine ⟨?_, by rw [Nat.zero_add]; exact hown.frozenAt j⟩
    rw [Nat.zero_add, hown.cellAt j (by omega)]
    simp [hj', encN]
  have hs := Yba.slices_Sort_int g 0 cap (I.map fun i : Nat => (i : Int)) w hH hlt (by simp; omega)
  rw [List.length_map, hI] at hs
  refine hs.mono ?_
  rintro e w' ⟨rfl, q, os, rfl⟩
  have hcur0 : ∃ more : List Value, cur = (I.map encN ++ more).toArray := by
    refine ⟨cur.toList.drop n, ?_⟩
    have : cur.toList = (I.map encN) ++ cur.toList.drop n := by
      rw [Nat.mul_one] at htake
      conv => lhs; rw [← List.take_append_drop n cur.toList, htake]
    rw [← this]
  obtain ⟨more, hcur⟩ := hcur0
  have hlen : ((srtZ I).map (Value.int .i64)).length = (I.map encN).length := by rw [List.length_map, (srtZ_perm I).length_eq]; simp
  have hp : (Go.Sort.putRow (Value.int .i64) (Go.Sort.ahead w q) g 0 (srtZ I).toArray).heap = w.heap.modify g (Go.Sort.onCells (Go.Sort.putCells (Value.int .i64) 0 (srtZ I).toArray)) := rfl
  have hps : (Go.Sort.putRow (Value.int .i64) (Go.Sort.ahead w q) g 0 (srtZ I).toArray).heap.size = w.heap.size := by rw [hp, Array.size_modify]
  refine ⟨rfl, ⟨by rw [List.length_map, srt_length, hI, Nat.mul_one], .inr ⟨g, cap, ((srtZ I).map (Value.int .i64) ++ more).toArray, rfl, hBg, ?_, hnc, hcm, ?_, ?_⟩⟩, ?_⟩
  · show ((Go.Sort.putRow (Value.int .i64) (Go.Sort.ahead w q) g 0 (srtZ I).toArray).heap ++ os)[g]? = _
    rw [Array.getElem?_append_left (by rw [hps]; exact hlt), hp, Array.getElem?_modify, if_pos rfl, hg]
    simp only [Option.map_some, Go.Sort.onCells]
    rw [hcur, put_owned _ _ _ hlen _ _ rfl]
  · rw [hcur] at hsz
    simp only [List.size_toArray, List.length_append] at hsz ⊢
    rw [hlen]
    exact hsz
  · rw [srt_cells]
    have : ((srtZ I).map (Value.int .i64)).length = n * 1 := by rw [hlen, List.length_map, hI, Nat.mul_one]
    simp [← this]
  · refine ⟨rfl, rfl, rfl, ?_, fun k hk hne => ?_⟩
    · show w.heap.size ≤ ((Go.Sort.putRow (Value.int .i64) (Go.Sort.ahead w q) g 0 (srtZ I).toArray).heap ++ os).size
      rw [Array.size_append, hps]
      omega
    · show ((Go.Sort.putRow (Value.int .i64) (Go.Sort.ahead w q) g 0 (srtZ I).toArray).heap ++ os)[k]? = _
      rw [Array.getElem?_append_left (by rw [hps]; exact hk), hp, Array.getElem?_modify, if_neg (fun e => hne (by rw [e]))]

/-! ### s[:0] -/
theorem slice0_25 (A : Option Addr) (q C : Nat) (w : World) : (Instr.slice 25 (.slice A q C) none (some (.int .i64 0)) none).run Yba.prog w = .ok (.slice A 0 C) w := by
  rcases A with _ | a <;> simp [Instr.slice, run_underlying Yba.underlying25, Instr.sliceBounds, Yba.sizeOf3, go_sem]
theorem slice0_23 (A : Option Addr) (q C : Nat) (w : World) : (Instr.slice 23 (.slice A q C) none (some (.int .i64 0)) none).run Yba.prog w = .ok (.slice A 0 C) w := by
  rcases A with _ | a <;> simp [Instr.slice, run_underlying Yba.underlying23, Instr.sliceBounds, Yba.sizeOf5, go_sem]
theorem owns0 {w : World} {B : Nat} {e : TypeId} {A : Option Addr} {q C n : Nat} {xs : List Value} (h : w.ownsRow B e 1 (.slice A q C) n xs) : w.ownsRow B e 1 (.slice A 0 C) 0 [] := by
  refine ⟨rfl, ?_⟩
  rcases h.2 with ⟨h1, _⟩ | ⟨g, cap, cur, e1, e2, e3, e4, e5, e6, e7⟩
  · simp at h1; obtain ⟨rfl, rfl, rfl⟩ := h1; exact .inl ⟨rfl, rfl⟩
  · simp at e1; obtain ⟨rfl, rfl, rfl⟩ := e1; exact .inr ⟨g, C, cur, rfl, e2, e3, Nat.zero_le _, e5, e6, by simp⟩

/-! ### The key as a string -/
def strOf (ns : List Int) : ByteArray := ns.foldl (fun r n => r.push (UInt8.ofNat n.toNat)) ByteArray.empty
theorem conv_key {w : World} {B g p cap : Nat} {ns : List Int} (h : w.ownsRow B 5 1 (.slice (some ⟨g, 0, none⟩) p cap) p (byt ns)) : (convert 23 9 (.slice (some ⟨g, 0, none⟩) p cap)).run Yba.prog w = .ok (.string (strOf ns)) w := by
  have hl : ns.length = p := by have := h.1; simpa [byt] using this
  rw [run_convert_bytes_string w 23 9 5 _ _ _ Yba.underlying23 Yba.underlying5 Yba.underlying9]
  refine run_bytesToString w _ p cap ns ?_
  have := run_loadCells_list (P := Yba.prog) (w := w) ⟨g, 0, none⟩ (byt ns) (fun j v hj => by
    rw [Addr.add_mid, Nat.zero_add, h.cellAt j (by have := (List.getElem?_eq_some_iff.1 hj).1; simp [byt] at this; omega)]
    exact hj)
  rw [show (byt ns).length = p by simp [byt, hl]] at this
  exact this

/-! ### The map -/
theorem isKeyS (K : ByteArray) : Go.MapKept.IsKey .string (.string K) := by simp [Go.MapKept.IsKey]
theorem look_nil (K : ByteArray) (w : World) : (Instr.lookup 42 (.map none) (.string K) true).run Yba.prog w = .ok (.tuple #[.agg #[.slice none 0 0, .slice none 0 0], .bool false]) w := by
  unfold Instr.lookup
  simp only [Sem.run_bind, run_underlying Yba.underlying42, Result.andThen, Sem.run_pure]
  rw [Go.MapKept.run_checkKey Yba.underlying9 (isKeyS K)]
  simp only [Result.andThen]
  rw [Go.MapKept.run_findKey Yba.underlying9 (a := none) rfl]
  simp [Result.andThen, Yba.zeroValue33]
/-- The map with one entry. -/
def Map1 (w : World) (M : Nat) (K : ByteArray) (ps : Value) : Prop := w.heap[M]? = some (.map #[⟨.string K, ps, 0⟩] 1)
theorem look_one (K : ByteArray) (ps : Value) (M : Nat) (w : World) (h : Map1 w M K ps) : (Instr.lookup 42 (.map (some M)) (.string K) true).run Yba.prog w = .ok (.tuple #[ps, .bool true]) w := by
  unfold Instr.lookup
  simp only [Sem.run_bind, run_underlying Yba.underlying42, Result.andThen, Sem.run_pure, Go.MapKept.run_getObj_map h]
  rw [Go.MapKept.run_checkKey Yba.underlying9 (isKeyS K)]
  simp only [Result.andThen]
  rw [Go.MapKept.run_findKey Yba.underlying9 (a := some (0, ps)) (by
    obtain ⟨r, hr, hi⟩ := Go.MapKept.sameNow_of_keys (isKeyS K) (isKeyS K)
    rw [hi.2 rfl] at hr
    simp [Instr.findNow, hr])]
  simp [Result.andThen]
theorem entry_new (K : ByteArray) (M : Nat) (w : World) (h : w.heap[M]? = some (.map #[] 0)) : (Instr.mapEntry 42 (.map (some M)) (.string K)).run Yba.prog w = .ok (.tuple #[.agg #[.slice none 0 0, .slice none 0 0], .int .i64 0]) { w with heap := w.heap.setIfInBounds M (.map #[⟨.string K, .agg #[.slice none 0 0, .slice none 0 0], 0⟩] 1) } := by
  unfold Instr.mapEntry
  simp only [Sem.run_bind, run_underlying Yba.underlying42, Result.andThen, Sem.run_pure, Go.MapKept.run_getObj_map h]
  rw [Go.MapKept.run_checkKey Yba.underlying9 (isKeyS K)]
  simp only [Result.andThen]
  rw [Go.MapKept.run_findKey Yba.underlying9 (a := none) rfl]
  simp [Result.andThen, Yba.zeroValue33, Go.MapKept.run_setObj_map _ h, goInt]
theorem entry_store (K : ByteArray) (M : Nat) (z ps : Value) (w : World) (h : w.heap[M]? = some (.map #[⟨.string K, z, 0⟩] 1)) : (Instr.entryStore 42 (.map (some M)) (.int .i64 0) ps).run Yba.prog w = .ok () { w with heap := w.heap.setIfInBounds M (.map #[⟨.string K, ps, 0⟩] 1) } := by
  unfold Instr.entryStore
  simp only [Sem.run_bind, Result.andThen, Sem.run_pure, Go.MapKept.run_getObj_map h]
  simp [asInt, asIntOf, Result.andThen, Go.MapKept.run_setObj_map _ h]
end Go.Proofs.Ybulkbaje
