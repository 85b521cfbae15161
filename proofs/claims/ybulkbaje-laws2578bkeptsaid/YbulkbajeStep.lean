/- Steps of the drawn region in (*rests).of that stores the new entry. -/
import Derived.Test.YbulkbajeKeep
import Derived.Deep.RegionHeld
namespace Go.Proofs.Ybulkbaje
open Go.RowKit
set_option linter.unusedSimpArgs false
set_option linter.unusedVariables false

/-- One operation of a region that draws its order taken first; where its value goes is said. -/
theorem take_to {P : Program} {md : Region.Mode} {ops : Array Oper} {Q : Exit → Act → World → Prop} {S : World → Prop} {fuel : Nat} {listed : Array Bool} {a : Act} {w : World} (i : Nat) (d : Tmp) (v : Value) {oi : Oper} (hi : ops[i]? = some oi) (hd : oi.dst = some d)
    (hs : Region.noSelect ops = true) (hf : Region.free md ops listed i = true) (hr : (Region.ready md ops listed).contains i = true)
    (hQ : ∀ c a w, Q (.panic c) (a.put (some d) v) w → Q (.panic c) a w) (hy : YieldsIf P ops S oi v a) (hS : S w)
    (h : wpAnyH P md ops Q S fuel (listed.setIfInBounds i true) (a.put (some d) v) w) : wpAnyH P md ops Q S (fuel + 1) listed a w :=
  wpAnyH_take hi hs hf hr (by rw [hd]; exact hQ) hy hS (by rw [hd]; exact h)

theorem info9 : (Yba.prog.info? 9).map (fun i => (i.zero, i.size, i.bytes)) = some (some (.string ByteArray.empty), 1, 16) := by kernel_rfl
theorem wp_entry {o : Oper} {a : Act} {w : World} {K : Act → World → Prop} {Q : Exit → Act → World → Prop} (m k : Operand) (d : Tmp) (ho : o.op = .mapEntry 42 m k) (hd : o.dst = some d) (M : Nat) (Kk : ByteArray) (hm : a.eval m = .map (some M)) (hk : a.eval k = .string Kk) (h : w.heap[M]? = some (.map #[] 0))
    (hK : K (a.put (some d) (.tuple #[.agg #[.slice none 0 0, .slice none 0 0], .int .i64 0])) { w with heap := w.heap.setIfInBounds M (.map #[⟨.string Kk, .agg #[.slice none 0 0, .slice none 0 0], 0⟩] 1) }) : o.wp Yba.prog a w K Q := by
  unfold Oper.wp execOp
  simp only [ho, hm, hk, Sem.run_bind, entry_new Kk M w h, Result.andThen_ok, Sem.run_pure]
  show K (a.put o.dst _) _
  rw [hd]
  exact hK
theorem wp_estore {o : Oper} {a : Act} {w : World} {K : Act → World → Prop} {Q : Exit → Act → World → Prop} (m s v : Operand) (ho : o.op = .entryStore 42 m s v) (hd : o.dst = none) (M : Nat) (Kk : ByteArray) (z ps : Value) (hm : a.eval m = .map (some M)) (hs : a.eval s = .int .i64 0) (hv : a.eval v = ps) (h : w.heap[M]? = some (.map #[⟨.string Kk, z, 0⟩] 1))
    (hK : K a { w with heap := w.heap.setIfInBounds M (.map #[⟨.string Kk, ps, 0⟩] 1) }) : o.wp Yba.prog a w K Q := by
  unfold Oper.wp execOp
  simp only [ho, hm, hs, hv, Sem.run_bind, entry_store Kk M z ps w h, Result.andThen_ok, Sem.run_pure]
  show K (a.put o.dst _) _
  rw [hd]
  exact hK
theorem wp_app43 {o : Oper} {a : Act} {w : World} {K : Act → World → Prop} {Q : Exit → Act → World → Prop} (s x : Operand) (d : Tmp) (ho : o.op = Op.call { callee := Callee.builtin Builtin.append, args := #[s, x], argTypes := #[43, 43] }) (hd : o.dst = some d)
    (hs : a.eval s = .slice none 0 0) (g : Nat) (Kk : ByteArray) (hx : a.eval x = .slice (some ⟨g, 0, none⟩) 1 1) (hg : w.cell? ⟨g, 0, none⟩ = some (.string Kk))
    (hK : ∀ (aO : Option Addr) (cO : Nat) (w' : World), w.grownBy w' none → K (a.put (some d) (.slice aO 1 cO)) w') : o.wp Yba.prog a w K Q := by
  obtain ⟨i0, hi, hz0, hz1, hz2⟩ := info_parts info9
  refine wp_append_own w s x 43 ho w.heap.size 9 i0 _ 1 16 Yba.underlying43 hi hz0 hz1 hz2 rfl (by decide) _ 0 [] hs (World.ownsRow_nil _ _ _ _) ⟨g, 0, none⟩ 1 1 [.string Kk] hx rfl ?_ ?_ ?_ ?_ (Nat.le_refl _) ?_
  · intro j u hu
    match j, hu with
    | 0, hu => simp at hu; subst hu; rw [Addr.add_mid]; exact hg
  · intro u hu; simp at hu; subst hu; rfl
  · unfold maxLen; omega
  · omega
  · intro v' w' hown hgr _
    obtain ⟨A, C, rfl⟩ := owns_shape hown
    rw [hd]
    exact hK A C w' hgr
/-- Behind the new entry: the map as it stands, all else of the world ahead as it was. -/
structure F27 (wF : World) (M : Nat) (o : Obj) (X : World) : Prop where
  os : X.os = wF.os
  tape : X.tape = wF.tape
  output : X.output = wF.output
  size : wF.heap.size ≤ X.heap.size
  map : X.heap[M]? = some o
  blk : ∀ (k : Nat) (o' : Obj), k ≠ M → wF.heap[k]? = some o' → X.heap[k]? = some o'
theorem f27 {wF X : World} {M : Nat} {o1 : Obj} (h : (wF.drew.alloc o1).grownBy X none) (hM : wF.heap[M]? = some (.map #[] 0)) : F27 wF M (.map #[] 0) X := by
  have hb : ∀ (k : Nat) (o' : Obj), wF.heap[k]? = some o' → X.heap[k]? = some o' := fun k o' hk => by
    have h1 : (wF.drew.alloc o1).heap[k]? = some o' := (Below.heap_alloc wF.drew o1 k (Array.getElem?_eq_some_iff.1 hk).1).trans hk
    exact (h.block k (Array.getElem?_eq_some_iff.1 h1).1 (by simp)).trans h1
  refine ⟨h.os, h.tape, h.output, Nat.le_trans ?_ h.size, hb M _ hM, fun k o' _ hk => hb k o' hk⟩
  have : (wF.drew.alloc o1).heap.size = wF.heap.size + 1 := by simp
  omega
theorem F27.entry {wF X : World} {M : Nat} {o : Obj} (h : F27 wF M o X) (o2 : Obj) : F27 wF M o2 { X with heap := X.heap.setIfInBounds M o2 } := by
  have hs := Go.MapKept.heap_set (o' := o2) h.map
  refine ⟨h.os, h.tape, h.output, ?_, hs.1, fun k o' hne hk => (hs.2 k hne).trans (h.blk k o' hne hk)⟩
  show wF.heap.size ≤ (X.heap.setIfInBounds M o2).size
  rw [Array.size_setIfInBounds]
  exact h.size
theorem F27.row {wF X : World} {M k : Nat} {o : Obj} {cs : List Value} {t : TypeId} (h : F27 wF M o X) (hr : Row wF k cs t) (hne : k ≠ M) : Row X k cs t := h.blk k _ hne hr
theorem wp_entryF {o : Oper} {a : Act} {w wF : World} {K : Act → World → Prop} {Q : Exit → Act → World → Prop} (m k : Operand) (d : Tmp) (ho : o.op = .mapEntry 42 m k) (hd : o.dst = some d) (M : Nat) (Kk : ByteArray) (hm : a.eval m = .map (some M)) (hk : a.eval k = .string Kk) (h : F27 wF M (.map #[] 0) w)
    (hK : ∀ X, F27 wF M (.map #[⟨.string Kk, .agg #[.slice none 0 0, .slice none 0 0], 0⟩] 1) X → K (a.put (some d) (.tuple #[.agg #[.slice none 0 0, .slice none 0 0], .int .i64 0])) X) : o.wp Yba.prog a w K Q :=
  wp_entry m k d ho hd M Kk hm hk h.map (hK _ (h.entry _))
theorem wp_estoreF {o : Oper} {a : Act} {w wF : World} {K : Act → World → Prop} {Q : Exit → Act → World → Prop} (m s v : Operand) (ho : o.op = .entryStore 42 m s v) (hd : o.dst = none) (M : Nat) (Kk : ByteArray) (z ps : Value) (hm : a.eval m = .map (some M)) (hs : a.eval s = .int .i64 0) (hv : a.eval v = ps) (h : F27 wF M (.map #[⟨.string Kk, z, 0⟩] 1) w)
    (hK : ∀ X, F27 wF M (.map #[⟨.string Kk, ps, 0⟩] 1) X → K a X) : o.wp Yba.prog a w K Q :=
  wp_estore m s v ho hd M Kk z ps hm hs hv h.map (hK _ (h.entry _))
def S27 (r T M : Nat) (aU : Option Addr) (mU cU : Nat) (w' : World) : Prop := w'.cell? ⟨r, 1, none⟩ = some (.map (some M)) ∧ w'.cell? ⟨T, 0, none⟩ = some (.slice none 0 0) ∧ w'.cell? ⟨T, 1, none⟩ = some (.slice aU mU cU)
theorem s27 {X : World} {r T M : Nat} {aU : Option Addr} {mU cU : Nat} {cs : List Value} (hrow : Row X r cs 45) (hc : cs[1]? = some (.map (some M))) (hT : Row X T [.slice none 0 0, .slice aU mU cU] 33) : S27 r T M aU mU cU X := ⟨hrow.cell hc, hT.cell rfl, hT.cell rfl⟩
theorem F27.owns {wF X : World} {M : Nat} {o : Obj} {B n size : Nat} {e : TypeId} {v : Value} {xs : List Value} {es : Array MapEntry} {ck : Nat} (h : F27 wF M o X) (hM : wF.heap[M]? = some (.map es ck)) (ho : wF.ownsRow B e size v n xs) : X.ownsRow B e size v n xs := by
  refine ⟨ho.1, ?_⟩
  rcases ho.2 with h1 | ⟨g, cap, cur, e1, e2, e3, e4⟩
  · exact .inl h1
  · refine .inr ⟨g, cap, cur, e1, e2, h.blk g _ (fun eq => ?_) e3, e4⟩
    subst eq
    rw [hM] at e3
    cases e3
theorem F27.keep {wF X w : World} {M r : Nat} {o : Obj} (h : F27 wF M o X) (hk : Keep r w wF) (hw : w.heap.size ≤ M) (hrw : r ≤ w.heap.size) : Keep r w X := by
  refine ⟨⟨h.os.trans hk.bel.os, h.tape.trans hk.bel.tape, h.output.trans hk.bel.output, Nat.le_trans hk.size h.size, fun k hkr => ?_⟩, fun k o' ho hko => ?_⟩
  · have hlt : k < w.heap.size := by omega
    have e1 := Array.getElem?_eq_getElem hlt
    have e2 := (hk.bel.block k hkr).trans e1
    exact (h.blk k _ (by omega) e2).trans e1.symm
  · have h1 := hk.blk k o' ho hko
    have hlt := (Array.getElem?_eq_some_iff.1 hko).1
    exact h.blk k o' (by omega) h1
theorem F27.argT {wF X : World} {M : Nat} {o : Obj} {a : Option Addr} {n : Nat} {S : List (Int × Int)} {es : Array MapEntry} {ck : Nat} (h : F27 wF M o X) (hM : wF.heap[M]? = some (.map es ck)) (hA : ArgT wF a n S) : ArgT X a n S := by
  refine ⟨hA.1, fun hn => ?_⟩
  obtain ⟨g, cs, e, hr, hAt⟩ := hA.2 hn
  refine ⟨g, cs, e, h.row hr (fun eq => ?_), hAt⟩
  subst eq
  unfold Row at hr
  rw [hM] at hr
  cases hr
end Go.Proofs.Ybulkbaje
