/-
  DERIVED: THE SHELF's CONTRACTS AT THIS DUMP, IN PLAIN WORDS (tools/lay-plain.mjs out of 'YbaShelf.lean', which tools/lay-shelf.mjs wrote): THE SAME DECLARATIONS UNDER THE SAME NAMES: 'import', 'namespace', 'open', 'def', 'theorem' AND NOTHING ELSE: no command of the shelf's: FOR A HAND-IN. Each laying: the table of numbers ('.._ren') and one theorem, a field a fact of the dump's own or the kernel's comparison; each contract: ONE APPLICATION.
-/
import Derived.Shelf.Small.Bits
import Derived.Shelf.Strconv.Itoa0
import Derived.Ground.MnProg
import Derived.Shelf.Bin.AppendUvarint
import Derived.Shelf.Sort.Plain
import Derived.Shelf.Bin.AppendUvarintArg
import Derived.Shelf.Slices.Reverse
import Derived.Shelf.Slices.Equal
import Derived.Ground.Names2Prog
import Derived.Shelf.Slices.Clone
import Derived.Shelf.Slices.SearchI
import Derived.Shelf.Slices.Cells
import Derived.Shelf.Slices.In.SortNone
import Derived.Shelf.Slices.Empties2
import Derived.Ground.SlgnProg
import Derived.Shelf.SlicesE.Clone
import Derived.Shelf.SlSortCmp.PdqK
import Derived.Ground.SlsfProg
import Derived.Test.YbulkbajeProg
namespace Go.Proofs
open Go.Shelf
def Yba.lays128_ren : Go.Shelf.Ren := ⟨fun | 128 => 32 | n => n, fun | 51 => 74 | 3 => 3 | 4 => 4 | 46 => 58 | 5 => 5 | 9 => 9 | n => n, fun | n => n⟩
theorem Yba.lays128 : Go.Proofs.Lays.n128 Yba.prog Yba.lays128_ren := {
  mixed := by kernel_rfl
  f128 := Yba.func32.trans (congrArg some (by kernel_rfl))
  t3 := Yba.underlying3
  a3 := Yba.isAgg3
  z3 := Yba.sizeOf3
  v3 := Yba.zeroValue3
  t4 := Yba.underlying4
  a4 := Yba.isAgg4
  z4 := Yba.sizeOf4
  v4 := Yba.zeroValue4
  t5 := Yba.underlying5
  a5 := Yba.isAgg5
  z5 := Yba.sizeOf5
  v5 := Yba.zeroValue5
  t9 := Yba.underlying9
  a9 := Yba.isAgg9
  z9 := Yba.sizeOf9
  v9 := Yba.zeroValue9
  t46 := Yba.underlying58
  a46 := Yba.isAgg58
  z46 := Yba.sizeOf58
  v46 := Yba.zeroValue58
  t51 := Yba.underlying74
  a51 := Yba.isAgg74
  z51 := Yba.sizeOf74
  v51 := Yba.zeroValue74 }
/-- bits.Len32: "Len32 returns the minimum number of bits required to represent x; the result is 0 for x == 0.": IT RETURNS 'Lib.bitLen x'; the world is as it was. ('h0', 'h1': x is a uint32.) (LAID: no walk: one application.) -/
theorem Yba.bits_Len32 (x : Int) (w : World) (h0 : 0 ≤ x) (h1 : x ≤ 4294967295) :
    Calls Yba.prog 32 #[.int .u32 x] w fun e w' => e = .returned (.int .i64 (Lib.bitLen x.toNat)) ∧ w' = w := Any.bits_Len32 Yba.lays128 x w h0 h1
def Yba.lays125_ren : Go.Shelf.Ren := ⟨fun | 125 => 20 | 128 => 32 | 129 => 33 | n => n, fun | 46 => 58 | 3 => 3 | 51 => 74 | 53 => 35 | 4 => 4 | 5 => 5 | 9 => 9 | n => n, fun | n => n⟩
theorem Yba.lays125 : Go.Proofs.Lays.n125 Yba.prog Yba.lays125_ren := {
  mixed := by kernel_rfl
  f125 := Yba.func20.trans (congrArg some (by kernel_rfl))
  f128 := Yba.func32.trans (congrArg some (by kernel_rfl))
  f129 := Yba.func33.trans (congrArg some (by kernel_rfl))
  t3 := Yba.underlying3
  a3 := Yba.isAgg3
  z3 := Yba.sizeOf3
  v3 := Yba.zeroValue3
  t4 := Yba.underlying4
  a4 := Yba.isAgg4
  z4 := Yba.sizeOf4
  v4 := Yba.zeroValue4
  t5 := Yba.underlying5
  a5 := Yba.isAgg5
  z5 := Yba.sizeOf5
  v5 := Yba.zeroValue5
  t9 := Yba.underlying9
  a9 := Yba.isAgg9
  z9 := Yba.sizeOf9
  v9 := Yba.zeroValue9
  t46 := Yba.underlying58
  a46 := Yba.isAgg58
  z46 := Yba.sizeOf58
  v46 := Yba.zeroValue58
  t51 := Yba.underlying74
  a51 := Yba.isAgg74
  z51 := Yba.sizeOf74
  v51 := Yba.zeroValue74
  t53 := Yba.underlying35
  a53 := Yba.isAgg35
  z53 := Yba.sizeOf35
  v53 := Yba.zeroValue35 }
/-- bits.Len: "Len returns the minimum number of bits required to represent x; the result is 0 for x == 0.": IT RETURNS 'Lib.bitLen x'; the world is as it was. (A uint has 64 bits in the model.) ITS CALLEE bits.Len64 IS MET BY ITS OWN CONTRACT OFF THE SHELF (lay that first). (LAID: no walk: one application.) -/
theorem Yba.bits_Len (x : Int) (w : World) (h0 : 0 ≤ x) (h1 : x ≤ 18446744073709551615) :
    Calls Yba.prog 20 #[.int .u64 x] w fun e w' => e = .returned (.int .i64 (Lib.bitLen x.toNat)) ∧ w' = w := Any.bits_Len Yba.lays125 x w h0 h1
def Yba.lays129_ren : Go.Shelf.Ren := ⟨fun | 129 => 33 | n => n, fun | 53 => 35 | 3 => 3 | 4 => 4 | 46 => 58 | 5 => 5 | 9 => 9 | n => n, fun | n => n⟩
theorem Yba.lays129 : Go.Proofs.Lays.n129 Yba.prog Yba.lays129_ren := {
  mixed := by kernel_rfl
  f129 := Yba.func33.trans (congrArg some (by kernel_rfl))
  t3 := Yba.underlying3
  a3 := Yba.isAgg3
  z3 := Yba.sizeOf3
  v3 := Yba.zeroValue3
  t4 := Yba.underlying4
  a4 := Yba.isAgg4
  z4 := Yba.sizeOf4
  v4 := Yba.zeroValue4
  t5 := Yba.underlying5
  a5 := Yba.isAgg5
  z5 := Yba.sizeOf5
  v5 := Yba.zeroValue5
  t9 := Yba.underlying9
  a9 := Yba.isAgg9
  z9 := Yba.sizeOf9
  v9 := Yba.zeroValue9
  t46 := Yba.underlying58
  a46 := Yba.isAgg58
  z46 := Yba.sizeOf58
  v46 := Yba.zeroValue58
  t53 := Yba.underlying35
  a53 := Yba.isAgg35
  z53 := Yba.sizeOf35
  v53 := Yba.zeroValue35 }
/-- bits.Len64: "Len64 returns the minimum number of bits required to represent x; the result is 0 for x == 0.": IT RETURNS 'Lib.bitLen x'; the world is as it was. ('h0', 'h1': x is a uint64.) (LAID: no walk: one application.) -/
theorem Yba.bits_Len64 (x : Int) (w : World) (h0 : 0 ≤ x) (h1 : x ≤ 18446744073709551615) :
    Calls Yba.prog 33 #[.int .u64 x] w fun e w' => e = .returned (.int .i64 (Lib.bitLen x.toNat)) ∧ w' = w := Any.bits_Len64 Yba.lays129 x w h0 h1
def Yba.laysBin47_ren : Go.Shelf.Ren := ⟨fun | 47 => 17 | n => n, fun | 22 => 23 | 33 => 35 | 4 => 4 | 5 => 5 | 45 => 58 | n => n, fun | n => n⟩
theorem Yba.laysBin47 : Go.Proofs.LaysBin.n47 Yba.prog Yba.laysBin47_ren := {
  mixed := by kernel_rfl
  f47 := Yba.func17.trans (congrArg some (by kernel_rfl))
  t4 := Yba.underlying4
  a4 := Yba.isAgg4
  z4 := Yba.sizeOf4
  v4 := Yba.zeroValue4
  i4 := by kernel_rfl
  t5 := Yba.underlying5
  a5 := Yba.isAgg5
  z5 := Yba.sizeOf5
  v5 := Yba.zeroValue5
  i5 := by kernel_rfl
  t22 := Yba.underlying23
  a22 := Yba.isAgg23
  z22 := Yba.sizeOf23
  v22 := Yba.zeroValue23
  i22 := by kernel_rfl
  t33 := Yba.underlying35
  a33 := Yba.isAgg35
  z33 := Yba.sizeOf35
  v33 := Yba.zeroValue35
  i33 := by kernel_rfl
  t45 := Yba.underlying58
  a45 := Yba.isAgg58
  z45 := Yba.sizeOf58
  v45 := Yba.zeroValue58
  i45 := by kernel_rfl }
open Go.RowKit in
/-- binary.AppendUvarint: "AppendUvarint appends the varint-encoded form of x, as generated by PutUvarint, to buf and returns the extended buffer.": WHAT COMES BACK OWNS buf's CELLS AND, BEHIND THEM, x's VARINT ('Lib.uvarint x': seven bits a byte, the least first; at most ten bytes). Below the call's own blocks nothing has turned. (LAID: no walk: one application.) -/
theorem Yba.binary_AppendUvarint (B n x : Nat) (hx : x < 18446744073709551616) (sv : Value) (xs : List Value) (w : World) (hown : w.ownsRow B 5 1 sv n xs) (hBw : B ≤ w.heap.size) (hlim : n + 10 ≤ 140737488355328) :
    Calls Yba.prog 17 #[sv, .int .u64 x] w fun e w' => ∃ v', e = .returned v' ∧ w'.ownsRow B 5 1 v' (n + (Lib.uvarint x).length) (xs ++ Lib.byteCells (Lib.uvarint x)) ∧ Below B w w' := Any.binary_AppendUvarint Yba.laysBin47 B n x hx sv xs w hown hBw hlim
def Yba.lays189_ren : Go.Shelf.Ren := ⟨fun | 189 => 13 | 125 => 20 | 257 => 19 | 128 => 32 | 129 => 33 | 294 => 23 | 295 => 24 | 296 => 25 | 297 => 26 | 298 => 27 | 299 => 28 | 216 => 29 | 300 => 30 | 301 => 31 | 328 => 38 | 329 => 39 | 330 => 40 | 331 => 41 | 332 => 42 | 215 => 43 | 343 => 50 | n => n, fun | 28 => 25 | 3 => 3 | 46 => 58 | 0 => 0 | 51 => 74 | 53 => 35 | 4 => 4 | 183 => 66 | 182 => 65 | 131 => 71 | 5 => 5 | 9 => 9 | 218 => 89 | 222 => 93 | 228 => 112 | 229 => 113 | n => n, fun | n => n⟩
theorem Yba.lays189 : Go.Proofs.Lays.n189 Yba.prog Yba.lays189_ren := {
  mixed := by kernel_rfl
  f125 := Yba.func20.trans (congrArg some (by kernel_rfl))
  f128 := Yba.func32.trans (congrArg some (by kernel_rfl))
  f129 := Yba.func33.trans (congrArg some (by kernel_rfl))
  f189 := Yba.func13.trans (congrArg some (by kernel_rfl))
  f215 := Yba.func43.trans (congrArg some (by kernel_rfl))
  f216 := Yba.func29.trans (congrArg some (by kernel_rfl))
  f257 := Yba.func19.trans (congrArg some (by kernel_rfl))
  f294 := Yba.func23.trans (congrArg some (by kernel_rfl))
  f295 := Yba.func24.trans (congrArg some (by kernel_rfl))
  f296 := Yba.func25.trans (congrArg some (by kernel_rfl))
  f297 := Yba.func26.trans (congrArg some (by kernel_rfl))
  f298 := Yba.func27.trans (congrArg some (by kernel_rfl))
  f299 := Yba.func28.trans (congrArg some (by kernel_rfl))
  f300 := Yba.func30.trans (congrArg some (by kernel_rfl))
  f301 := Yba.func31.trans (congrArg some (by kernel_rfl))
  f328 := Yba.func38.trans (congrArg some (by kernel_rfl))
  f329 := Yba.func39.trans (congrArg some (by kernel_rfl))
  f330 := Yba.func40.trans (congrArg some (by kernel_rfl))
  f331 := Yba.func41.trans (congrArg some (by kernel_rfl))
  f332 := Yba.func42.trans (congrArg some (by kernel_rfl))
  f343 := Yba.func50.trans (congrArg some (by kernel_rfl))
  t0 := Yba.underlying0
  a0 := Yba.isAgg0
  z0 := Yba.sizeOf0
  v0 := Yba.zeroValue0
  t3 := Yba.underlying3
  a3 := Yba.isAgg3
  z3 := Yba.sizeOf3
  v3 := Yba.zeroValue3
  t4 := Yba.underlying4
  a4 := Yba.isAgg4
  z4 := Yba.sizeOf4
  v4 := Yba.zeroValue4
  t5 := Yba.underlying5
  a5 := Yba.isAgg5
  z5 := Yba.sizeOf5
  v5 := Yba.zeroValue5
  t9 := Yba.underlying9
  a9 := Yba.isAgg9
  z9 := Yba.sizeOf9
  v9 := Yba.zeroValue9
  t28 := Yba.underlying25
  a28 := Yba.isAgg25
  z28 := Yba.sizeOf25
  v28 := Yba.zeroValue25
  t46 := Yba.underlying58
  a46 := Yba.isAgg58
  z46 := Yba.sizeOf58
  v46 := Yba.zeroValue58
  t51 := Yba.underlying74
  a51 := Yba.isAgg74
  z51 := Yba.sizeOf74
  v51 := Yba.zeroValue74
  t53 := Yba.underlying35
  a53 := Yba.isAgg35
  z53 := Yba.sizeOf35
  v53 := Yba.zeroValue35
  t131 := Yba.underlying71
  a131 := Yba.isAgg71
  z131 := Yba.sizeOf71
  v131 := Yba.zeroValue71
  t182 := Yba.underlying65
  a182 := Yba.isAgg65
  z182 := Yba.sizeOf65
  v182 := Yba.zeroValue65
  t183 := Yba.underlying66
  a183 := Yba.isAgg66
  z183 := Yba.sizeOf66
  v183 := Yba.zeroValue66
  t218 := Yba.underlying89
  a218 := Yba.isAgg89
  z218 := Yba.sizeOf89
  v218 := Yba.zeroValue89
  t222 := Yba.underlying93
  a222 := Yba.isAgg93
  z222 := Yba.sizeOf93
  v222 := Yba.zeroValue93
  t228 := Yba.underlying112
  a228 := Yba.isAgg112
  z228 := Yba.sizeOf112
  v228 := Yba.zeroValue112
  t229 := Yba.underlying113
  a229 := Yba.isAgg113
  z229 := Yba.sizeOf113
  v229 := Yba.zeroValue113 }
open Go.Sort Go.RowKit in
theorem Yba.slices_Sort_int (blk off cap : Nat) (zs : List Int) (w : World) (hH : Holds (Value.int .i64) w blk off zs.toArray) (hblk : blk < w.heap.size) (hsz : zs.length < 4611686018427387904) :
    Calls Yba.prog 13 #[.slice (some ⟨blk, off, none⟩) zs.length cap] w fun e w' =>
      e = .returned (.tuple #[]) ∧ ∃ n os, w' = grow (putRow (Value.int .i64) (Sort.ahead w n) blk off (zs.mergeSort fun x y => decide (x ≤ y)).toArray) os := Any.slices_Sort_int Yba.lays189 blk off cap zs w hH hblk hsz
open Go.RowKit in
/-- binary.AppendUvarint, buf A SLICE THAT CAME IN ('Came W0 ..'), onto which m bytes ('ks') have been appended so far: BEHIND THE CALL: x's VARINT BESIDES ('Lib.uvarint x': at most ten bytes). (LAID: no walk: one application.) -/
theorem Yba.binary_AppendUvarint_arg (W0 : World) (ao : Option Addr) (b off len cap : Nat) (olds : List Value) (hc : Came W0 1 ao b off len cap olds) (x : Nat) (hx : x < 18446744073709551616) (sv : Value) (m : Nat) (ks : List Value) (w : World) (honto : Onto W0 5 1 ao b off len cap olds w sv m ks) (hlim : len + m + 10 ≤ 140737488355328) :
    Calls Yba.prog 17 #[sv, .int .u64 x] w fun e w' => ∃ v', e = .returned v' ∧ Onto W0 5 1 ao b off len cap olds w' v' (m + (Lib.uvarint x).length) (ks ++ Lib.byteCells (Lib.uvarint x)) := Any.binary_AppendUvarint_arg Yba.laysBin47 W0 ao b off len cap olds hc x hx sv m ks w honto hlim
def Yba.lays112_ren : Go.Shelf.Ren := ⟨fun | 112 => 12 | n => n, fun | 28 => 25 | 3 => 3 | 4 => 4 | 0 => 0 | n => n, fun | n => n⟩
theorem Yba.lays112 : Go.Proofs.Lays.n112 Yba.prog Yba.lays112_ren := {
  mixed := by kernel_rfl
  f112 := Yba.func12.trans (congrArg some (by kernel_rfl))
  t0 := Yba.underlying0
  a0 := Yba.isAgg0
  z0 := Yba.sizeOf0
  v0 := Yba.zeroValue0
  t3 := Yba.underlying3
  a3 := Yba.isAgg3
  z3 := Yba.sizeOf3
  v3 := Yba.zeroValue3
  t4 := Yba.underlying4
  a4 := Yba.isAgg4
  z4 := Yba.sizeOf4
  v4 := Yba.zeroValue4
  t28 := Yba.underlying25
  a28 := Yba.isAgg25
  z28 := Yba.sizeOf25
  v28 := Yba.zeroValue25 }
open Go.RowKit Go.Lib Go.Sort in
/-- slices.Reverse at []int, over an array: Go's loop from the two ends inward is walked; it makes 'Sort.reverseLoop 0 (len - 1)', which is 'Array.reverse' (Derived/Lib/SlicesMore.lean). (LAID: no walk: one application.) -/
theorem Yba.slices_Reverse_int_arr (blk off cap : Nat) (d : Array Int) (w : World) (hH : Holds encI w blk off d) (hsz : d.size ≤ 9223372036854775807) :
    Calls Yba.prog 12 #[.slice (some ⟨blk, off, none⟩) d.size cap] w fun e w' => e = .returned (.tuple #[]) ∧ ∃ n, w' = putRow encI (Sort.ahead w n) blk off d.reverse := Any.slices_Reverse_int_arr Yba.lays112 blk off cap d w hH hsz
open Go.RowKit Go.Lib Go.Sort in
/-- slices.Reverse at []int: "Reverse reverses the elements of the slice in place.": THE SLICE's CELLS HOLD 'zs.reverse' BEHIND THE CALL; all else is as it was, but for the count of draws (the exchange 's[i], s[j] = s[j], s[i]' draws its order, once a round). IN THE WORDS OF slices.Sort's CONTRACT: 'Holds': the cells hold zs and none is frozen; 'putRow': the world with those cells holding another array. A slice of length 0 that is not nil is among them ('zs = []'); nil: '.._nil'. (LAID: no walk: one application.) -/
theorem Yba.slices_Reverse_int (blk off cap : Nat) (zs : List Int) (w : World) (hH : Holds (Value.int .i64) w blk off zs.toArray) (hsz : zs.length ≤ 9223372036854775807) :
    Calls Yba.prog 12 #[.slice (some ⟨blk, off, none⟩) zs.length cap] w fun e w' => e = .returned (.tuple #[]) ∧ ∃ n, w' = putRow (Value.int .i64) (Sort.ahead w n) blk off zs.reverse.toArray := Any.slices_Reverse_int Yba.lays112 blk off cap zs w hH hsz
open Go.RowKit Go.Lib Go.Sort in
/-- The same at a slice of length 0, a nil one too: nothing is read, nothing written, nothing drawn. (LAID: no walk: one application.) -/
theorem Yba.slices_Reverse_int_empty (a : Option Addr) (cap : Nat) (w : World) :
    Calls Yba.prog 12 #[.slice a 0 cap] w fun e w' => e = .returned (.tuple #[]) ∧ w' = w := Any.slices_Reverse_int_empty Yba.lays112 a cap w
def Yba.lays111_ren : Go.Shelf.Ren := ⟨fun | 111 => 14 | n => n, fun | 28 => 25 | 3 => 3 | 4 => 4 | 0 => 0 | n => n, fun | n => n⟩
theorem Yba.lays111 : Go.Proofs.Lays.n111 Yba.prog Yba.lays111_ren := {
  mixed := by kernel_rfl
  f111 := Yba.func14.trans (congrArg some (by kernel_rfl))
  t0 := Yba.underlying0
  a0 := Yba.isAgg0
  z0 := Yba.sizeOf0
  v0 := Yba.zeroValue0
  t3 := Yba.underlying3
  a3 := Yba.isAgg3
  z3 := Yba.sizeOf3
  v3 := Yba.zeroValue3
  t4 := Yba.underlying4
  a4 := Yba.isAgg4
  z4 := Yba.sizeOf4
  v4 := Yba.zeroValue4
  t28 := Yba.underlying25
  a28 := Yba.isAgg25
  z28 := Yba.sizeOf25
  v28 := Yba.zeroValue25 }
open Go.RowKit Go.Lib in
/-- slices.Equal at []int: "Equal reports whether two slices are equal: the same length and all elements equal. If the lengths are different, Equal returns false. Otherwise, the elements are compared in increasing index order, and the comparison stops at the first unequal pair. Empty and nil slices are considered equal.": IT RETURNS WHETHER THE TWO LISTS OF ELEMENTS ARE ONE; the world is as it was but for the count of draws (the test 's1[i] != s2[i]' has two reads, whose order the model draws, once a round). 'xs', 'ys': what the cells behind the two addresses hold (the spare capacity too, if you have it); 'xs.take n', 'ys.take m': the elements. THE TWO SLICES MAY OVERLAP. (LAID: no walk: one application.) -/
theorem Yba.slices_Equal_int (b1 o1 n c b2 o2 m d : Nat) (xs ys : List Int) (w : World) (hx : n ≤ xs.length) (hy : m ≤ ys.length) (hbig : n ≤ 9223372036854775807) (hbig2 : m ≤ 9223372036854775807) (hc1 : ∀ j, j < xs.length → w.cell? ⟨b1, o1 + j, none⟩ = some (.int .i64 (xs.getD j 0))) (hc2 : ∀ j, j < ys.length → w.cell? ⟨b2, o2 + j, none⟩ = some (.int .i64 (ys.getD j 0))) :
    Calls Yba.prog 14 #[.slice (some ⟨b1, o1, none⟩) n c, .slice (some ⟨b2, o2, none⟩) m d] w fun e w' => e = .returned (.bool (xs.take n == ys.take m)) ∧ ∃ q, w' = w.drewN q := Any.slices_Equal_int Yba.lays111 b1 o1 n c b2 o2 m d xs ys w hx hy hbig hbig2 hc1 hc2
open Go.RowKit Go.Lib in
/-- The same where the first is of length 0 (a nil one too): no cell is asked for. (LAID: no walk: one application.) -/
theorem Yba.slices_Equal_int_empty (a1 a2 : Option Addr) (c m d : Nat) (w : World) (hbig2 : m ≤ 9223372036854775807) :
    Calls Yba.prog 14 #[.slice a1 0 c, .slice a2 m d] w fun e w' => e = .returned (.bool (decide (m = 0))) ∧ w' = w := Any.slices_Equal_int_empty Yba.lays111 a1 a2 c m d w hbig2
def Yba.laysNm215_ren : Go.Shelf.Ren := ⟨fun | 15 => 11 | n => n, fun | 22 => 25 | 3 => 3 | 4 => 4 | n => n, fun | n => n⟩
theorem Yba.laysNm215 : Go.Proofs.Lays2.n15 Yba.prog Yba.laysNm215_ren := {
  mixed := by kernel_rfl
  f15 := Yba.func11.trans (congrArg some (by kernel_rfl))
  t3 := Yba.underlying3
  a3 := Yba.isAgg3
  z3 := Yba.sizeOf3
  v3 := Yba.zeroValue3
  t4 := Yba.underlying4
  a4 := Yba.isAgg4
  z4 := Yba.sizeOf4
  v4 := Yba.zeroValue4
  t22 := Yba.underlying25
  a22 := Yba.isAgg25
  z22 := Yba.sizeOf25
  v22 := Yba.zeroValue25
  i3 := by kernel_rfl }
open Go.RowKit Go.Lib in
/-- slices.Clone at []int: "Clone returns a copy of the slice. The elements are copied using assignment, so this is a shallow clone. The result may have additional unused capacity. The result preserves the nilness of s.": OF A SLICE THAT IS NOT nil IT RETURNS A SLICE THAT IS NOT nil, OF THE SAME ELEMENTS, IN MEMORY OF THE CALL's OWN: in the how-to's words (6f): 'w'.ownsRow B e 1 v' n cells': v' begins at the head of a row among the blocks from B on (B: the heap's size at the call), not frozen, whose first cells are the elements · 'Below B w w'': below B all is as it was. The capacity is whatever the run-time gives. 'zs': what the cells behind the slice's address hold; 'zs.take n': its elements. (LAID: no walk: one application.) -/
theorem Yba.slices_Clone_int (b off n c : Nat) (zs : List Int) (w : World) (hz : n ≤ zs.length) (hbig : n * 8 ≤ 140737488355328) (hc : ∀ j, j < zs.length → w.cell? ⟨b, off + j, none⟩ = some (.int .i64 (zs.getD j 0))) :
    Calls Yba.prog 11 #[.slice (some ⟨b, off, none⟩) n c] w fun e w' => ∃ v', e = .returned v' ∧ w'.ownsRow w.heap.size 3 1 v' n ((zs.take n).map (Value.int .i64)) ∧ v' ≠ .slice none 0 0 ∧ Below w.heap.size w w' := Any.slices_Clone_int Yba.laysNm215 b off n c zs w hz hbig hc
open Go.RowKit Go.Lib in
/-- The same at nil: nil comes back; the world is as it was. (LAID: no walk: one application.) -/
theorem Yba.slices_Clone_int_nil (n c : Nat) (w : World) :
    Calls Yba.prog 11 #[.slice none n c] w fun e w' => e = .returned (.slice none 0 0) ∧ w' = w := Any.slices_Clone_int_nil Yba.laysNm215 n c w
open Go.RowKit Go.Lib in
/-- The same at a slice of length 0 that is not nil, WHATEVER ITS ADDRESS (no cell is asked for): a slice that is not nil and owns nothing comes back. (LAID: no walk: one application.) -/
theorem Yba.slices_Clone_int_zero (a : Addr) (c : Nat) (w : World) :
    Calls Yba.prog 11 #[.slice (some a) 0 c] w fun e w' => ∃ v', e = .returned v' ∧ w'.ownsRow w.heap.size 3 1 v' 0 [] ∧ v' ≠ .slice none 0 0 ∧ Below w.heap.size w w' := Any.slices_Clone_int_zero Yba.laysNm215 a c w
def Yba.laysNm237_ren : Go.Shelf.Ren := ⟨fun | 37 => 43 | n => n, fun | 3 => 3 | 4 => 4 | n => n, fun | n => n⟩
theorem Yba.laysNm237 : Go.Proofs.Lays2.n37 Yba.prog Yba.laysNm237_ren := {
  mixed := by kernel_rfl
  f37 := Yba.func43.trans (congrArg some (by kernel_rfl))
  t3 := Yba.underlying3
  a3 := Yba.isAgg3
  z3 := Yba.sizeOf3
  v3 := Yba.zeroValue3
  t4 := Yba.underlying4
  a4 := Yba.isAgg4
  z4 := Yba.sizeOf4
  v4 := Yba.zeroValue4 }
open Go.RowKit Go.Lib in
/-- cmp.isNaN[int]: 'x != x': false. (LAID: no walk: one application.) -/
theorem Yba.cmp_isNaN_int2 (x : Int) (w : World) :
    Calls Yba.prog 43 #[.int .i64 x] w fun e w' => e = .returned (.bool false) ∧ w' = w := Any.cmp_isNaN_int2 Yba.laysNm237 x w
def Yba.laysNm231_ren : Go.Shelf.Ren := ⟨fun | 31 => 29 | 37 => 43 | n => n, fun | 3 => 3 | 4 => 4 | n => n, fun | n => n⟩
theorem Yba.laysNm231 : Go.Proofs.Lays2.n31 Yba.prog Yba.laysNm231_ren := {
  mixed := by kernel_rfl
  f31 := Yba.func29.trans (congrArg some (by kernel_rfl))
  f37 := Yba.func43.trans (congrArg some (by kernel_rfl))
  t3 := Yba.underlying3
  a3 := Yba.isAgg3
  z3 := Yba.sizeOf3
  v3 := Yba.zeroValue3
  t4 := Yba.underlying4
  a4 := Yba.isAgg4
  z4 := Yba.sizeOf4
  v4 := Yba.zeroValue4 }
open Go.RowKit Go.Lib in
/-- cmp.Less[int]: "Less reports whether x is less than y.": 'x < y'; the world is as it was. (LAID: no walk: one application.) -/
theorem Yba.cmp_Less_int2 (x y : Int) (w : World) :
    Calls Yba.prog 29 #[.int .i64 x, .int .i64 y] w fun e w' => e = .returned (.bool (decide (x < y))) ∧ w' = w := Any.cmp_Less_int2 Yba.laysNm231 x y w
open Go.RowKit Go.Lib Go.Sort in
/-- slices.Reverse at []int, of an argument: the n cells hold the elements in reverse. (LAID: no walk: one application.) -/
theorem Yba.slices_Reverse_int_cells (b off n c : Nat) (zs : List Int) (w : World) (hz : n ≤ zs.length) (hbig : n ≤ 9223372036854775807) (hc : ∀ j, j < zs.length → w.cell? ⟨b, off + j, none⟩ = some (.int .i64 (zs.getD j 0))) (hf : ∀ j, j < n → w.frozen? ⟨b, off + j, none⟩ = false) :
    Calls Yba.prog 12 #[.slice (some ⟨b, off, none⟩) n c] w fun e w' => e = .returned (.tuple #[]) ∧ ∃ q, w' = (w.drewN q).setCells b off ((zs.take n).reverse.map (Value.int .i64)) := Any.slices_Reverse_int_cells Yba.lays112 b off n c zs w hz hbig hc hf
open Go.RowKit Go.Sort in
/-- .. and plain. (LAID: no walk: one application.) -/
theorem Yba.slices_Sort_int_none (p : Option Addr) (cap : Nat) (w : World) :
    Calls Yba.prog 13 #[.slice p 0 cap] w fun e w' => e = .returned (.tuple #[]) ∧ w' = w := Any.slices_Sort_int_none Yba.lays189 p cap w
open Go.RowKit Go.Lib in
theorem Yba.slices_Equal_int_lens (a1 a2 : Option Addr) (n c m d : Nat) (w : World) (hnm : n ≠ m) :
    Calls Yba.prog 14 #[.slice a1 n c, .slice a2 m d] w fun e w' => e = .returned (.bool false) ∧ w' = w := Any.slices_Equal_int_lens Yba.lays111 a1 a2 n c m d w hnm
def Yba.laysPdq_ren : Go.Shelf.Ren := ⟨fun | 14 => 51 | 20 => 53 | 21 => 54 | 22 => 55 | 23 => 56 | 24 => 57 | 25 => 58 | 26 => 59 | 27 => 60 | 46 => 61 | 47 => 39 | 48 => 40 | 49 => 62 | 50 => 63 | 15 => 20 | 57 => 64 | 28 => 32 | 29 => 33 | n => n, fun | 24 => 57 | 22 => 30 | 3 => 3 | 25 => 99 | 4 => 4 | 0 => 0 | 46 => 66 | 45 => 65 | 50 => 71 | 66 => 89 | 39 => 58 | 55 => 35 | 70 => 93 | 76 => 112 | 77 => 113 | 53 => 74 | 5 => 5 | 9 => 9 | n => n, fun | n => n⟩
theorem Yba.laysPdq : Go.Proofs.SlLaysF0.n14 Yba.prog Yba.laysPdq_ren := {
  mixed := by kernel_rfl
  f14 := ⟨Yba.f51.name, by decide, Yba.func51.trans (congrArg some (by kernel_rfl))⟩
  f15 := Yba.func20.trans (congrArg some (by kernel_rfl))
  f20 := ⟨Yba.f53.name, by decide, Yba.func53.trans (congrArg some (by kernel_rfl))⟩
  f21 := ⟨Yba.f54.name, by decide, Yba.func54.trans (congrArg some (by kernel_rfl))⟩
  f22 := ⟨Yba.f55.name, by decide, Yba.func55.trans (congrArg some (by kernel_rfl))⟩
  f23 := ⟨Yba.f56.name, by decide, Yba.func56.trans (congrArg some (by kernel_rfl))⟩
  f24 := ⟨Yba.f57.name, by decide, Yba.func57.trans (congrArg some (by kernel_rfl))⟩
  f25 := ⟨Yba.f58.name, by decide, Yba.func58.trans (congrArg some (by kernel_rfl))⟩
  f26 := ⟨Yba.f59.name, by decide, Yba.func59.trans (congrArg some (by kernel_rfl))⟩
  f27 := ⟨Yba.f60.name, by decide, Yba.func60.trans (congrArg some (by kernel_rfl))⟩
  f28 := Yba.func32.trans (congrArg some (by kernel_rfl))
  f29 := Yba.func33.trans (congrArg some (by kernel_rfl))
  f46 := ⟨Yba.f61.name, by decide, Yba.func61.trans (congrArg some (by kernel_rfl))⟩
  f47 := Yba.func39.trans (congrArg some (by kernel_rfl))
  f48 := Yba.func40.trans (congrArg some (by kernel_rfl))
  f49 := ⟨Yba.f62.name, by decide, Yba.func62.trans (congrArg some (by kernel_rfl))⟩
  f50 := ⟨Yba.f63.name, by decide, Yba.func63.trans (congrArg some (by kernel_rfl))⟩
  f57 := ⟨Yba.f64.name, by decide, Yba.func64.trans (congrArg some (by kernel_rfl))⟩
  t0 := Yba.underlying0
  a0 := Yba.isAgg0
  z0 := Yba.sizeOf0
  v0 := Yba.zeroValue0
  t3 := Yba.underlying3
  a3 := Yba.isAgg3
  z3 := Yba.sizeOf3
  v3 := Yba.zeroValue3
  t4 := Yba.underlying4
  a4 := Yba.isAgg4
  z4 := Yba.sizeOf4
  v4 := Yba.zeroValue4
  t5 := Yba.underlying5
  a5 := Yba.isAgg5
  z5 := Yba.sizeOf5
  v5 := Yba.zeroValue5
  t9 := Yba.underlying9
  a9 := Yba.isAgg9
  z9 := Yba.sizeOf9
  v9 := Yba.zeroValue9
  t22 := Yba.underlying30
  a22 := Yba.isAgg30
  z22 := Yba.sizeOf30
  v22 := Yba.zeroValue30
  t25 := Yba.underlying99
  a25 := Yba.isAgg99
  z25 := Yba.sizeOf99
  v25 := Yba.zeroValue99
  t39 := Yba.underlying58
  a39 := Yba.isAgg58
  z39 := Yba.sizeOf58
  v39 := Yba.zeroValue58
  t45 := Yba.underlying65
  a45 := Yba.isAgg65
  z45 := Yba.sizeOf65
  v45 := Yba.zeroValue65
  t46 := Yba.underlying66
  a46 := Yba.isAgg66
  z46 := Yba.sizeOf66
  v46 := Yba.zeroValue66
  t50 := Yba.underlying71
  a50 := Yba.isAgg71
  z50 := Yba.sizeOf71
  v50 := Yba.zeroValue71
  t53 := Yba.underlying74
  a53 := Yba.isAgg74
  z53 := Yba.sizeOf74
  v53 := Yba.zeroValue74
  t55 := Yba.underlying35
  a55 := Yba.isAgg35
  z55 := Yba.sizeOf35
  v55 := Yba.zeroValue35
  t66 := Yba.underlying89
  a66 := Yba.isAgg89
  z66 := Yba.sizeOf89
  v66 := Yba.zeroValue89
  t70 := Yba.underlying93
  a70 := Yba.isAgg93
  z70 := Yba.sizeOf93
  v70 := Yba.zeroValue93
  t76 := Yba.underlying112
  a76 := Yba.isAgg112
  z76 := Yba.sizeOf112
  v76 := Yba.zeroValue112
  t77 := Yba.underlying113
  a77 := Yba.isAgg113
  z77 := Yba.sizeOf113
  v77 := Yba.zeroValue113 }
def Yba.laysSlE041_f11_ren : Go.Shelf.Ren := ⟨fun | 41 => 11 | n => n, fun | 22 => 25 | 23 => 3 | 4 => 4 | n => n, fun | n => n⟩
theorem Yba.laysSlE041_f11 : Go.Proofs.SlLaysE0.n41 Yba.prog Yba.laysSlE041_f11_ren := {
  mixed := by kernel_rfl
  f41 := ⟨Yba.f11.name, by decide, Yba.func11.trans (congrArg some (by kernel_rfl))⟩
  t4 := Yba.underlying4
  a4 := Yba.isAgg4
  z4 := Yba.sizeOf4
  v4 := Yba.zeroValue4
  t22 := Yba.underlying25
  a22 := Yba.isAgg25
  z22 := Yba.sizeOf25
  v22 := Yba.zeroValue25 }
open Go.RowKit Go.Lib in
/-- slices.Clone: "Clone returns a copy of the slice. The elements are copied using assignment, so this is a shallow clone. The result may have additional unused capacity. The result preserves the nilness of s.": OF A SLICE THAT IS NOT nil IT RETURNS A SLICE THAT IS NOT nil, OF THE SAME CELLS, IN MEMORY OF THE CALL's OWN ('ownsRow': the how-to's 6f); below the heap's size at the call all is as it was. (LAID AT THE INSTANCE 'slices.Clone[[]int,int]': no walk: one application.) -/
theorem Yba.slices_Clone (i0 : TypeInfo) (z : Value) (size bytes : Nat) (hi : Yba.prog.info? 3 = some i0) (hz0 : i0.zero = some z) (hz1 : i0.size = size) (hz2 : i0.bytes = bytes) (hzs : z.cells.size = size) (hsz : 0 < size) (z23 : ∀ w, (Go.sizeOf 3).run Yba.prog w = .ok size w) (b off n c : Nat) (news : List Value) (w : World) (hl : news.length = n * size) (hn : n ≤ maxLen) (hbig : n * bytes ≤ 140737488355328) (hc : ∀ j u, news[j]? = some u → w.cell? ⟨b, off + j, none⟩ = some u) (h1 : ∀ u ∈ news, u.oneCell' = true) :
    Calls Yba.prog 11 #[.slice (some ⟨b, off, none⟩) n c] w fun e w' => ∃ v', e = .returned v' ∧ w'.ownsRow w.heap.size 3 size v' n news ∧ v' ≠ .slice none 0 0 ∧ Below w.heap.size w w' := AnyE.slices_Clone Yba.laysSlE041_f11 i0 z size bytes hi hz0 hz1 hz2 hzs hsz z23 b off n c news w hl hn hbig hc h1
open Go.RowKit Go.Lib in
/-- The same at nil: nil comes back; the world is as it was; nothing is asked of the element's type. (LAID AT THE INSTANCE 'slices.Clone[[]int,int]': no walk: one application.) -/
theorem Yba.slices_Clone_nil (n c : Nat) (w : World) :
    Calls Yba.prog 11 #[.slice none n c] w fun e w' => e = .returned (.slice none 0 0) ∧ w' = w := AnyE.slices_Clone_nil Yba.laysSlE041_f11 n c w
end Go.Proofs
