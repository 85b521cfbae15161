/-
  No cell of these rows narrows 'for every input' (looked for: loops, veiled, ifaces, maps, wideKeys, modest, calm, conditions, laid).
  DERIVED. THE GIVEN ROWS OF THIS SEAT. 2 by the template 'for every input the law returns true; each argument reads behind the call as it read before'; 0 by the template 'total and deterministic' (their statements: YbulkbajeTotals.lean).
  GIVEN WITH THE SEED: the statements are not yours to turn. If you find one false, say at which input.
  Laid BY PROGRAM, IN A SANDBOX (cutbox-rows.mjs): the forced cells as the released guide's own fill.sh prints them over the translation 3ba4306564aeba10… (all of the seat's roots in one cut). By AI agents, Wed Nov 11 2026. No macro, syntax, notation, axiom, sorry.
-/
import Derived.Test.YbulkbajeChecked
import GoSem.Claim
import GoSem.ClaimJoined
import GoSem.ClaimMapViews
import Derived.JoinedTies
import Derived.KernelRfl
namespace Go.Proofs.Ybulkbaje
/- THE CELL 'sum', in the pinned program and in every row, IS THE sha256 OF THE DUMP (.gsa) THAT YbulkbajeProg.lean LOADS. Nothing in Lean hashes anything: it is a label: what it is worth is what the hold of that sum in a sandbox is worth. -/
noncomputable def Yba.pinned : Pinned := { name := "ybulkbaje", sum := "3ba4306564aeba10e0c01ba806157d8eb211e65770a1649b8256e4b06a465cb7", checked := Yba.checked }
namespace Rows
def none {H : Type} : Left H := { results := [], args := [] }

/-- 'packet.LawS2578BUnion': WHATEVER THE INPUT: true; the input reads as it did. -/
def lawS2578BUnionSpec : ChangeSpec := { name := "lawS2578BUnion", fn := fun _ => fun
  | [d1, d2] => { results := [.lit (.bool true)], args := [d1, d2] }
  | _ => none }
def lawS2578BUnionRow : OpenClaim := { program := "ybulkbaje", sum := "3ba4306564aeba10e0c01ba806157d8eb211e65770a1649b8256e4b06a465cb7", func := "example.com/shadowing/shadowing/packet.LawS2578BUnion", spec := "lawS2578BUnion", unfollowed := true, recurses := true, named := ["encoding/binary.LittleEndian"], apart := false }
def LawS2578BUnionSaid : Prop := lawS2578BUnionRow.holds Yba.pinned (OpenSpec.ofChange lawS2578BUnionSpec)

/-- ITS FALSE NEIGHBOUR: 'it returns false'. Refute it at one input. -/
def lawS2578BUnionWrong : ChangeSpec := { name := "lawS2578BUnion", fn := fun _ => fun
  | [d1, d2] => { results := [.lit (.bool false)], args := [d1, d2] }
  | _ => none }
def LawS2578BUnionWrongFalsely : Prop := lawS2578BUnionRow.holds Yba.pinned (OpenSpec.ofChange lawS2578BUnionWrong)

/-- 'packet.LawS2578BKept': WHATEVER THE INPUT: true; the input reads as it did. -/
def lawS2578BKeptSpec : ChangeSpec := { name := "lawS2578BKept", fn := fun _ => fun
  | [d1, d2] => { results := [.lit (.bool true)], args := [d1, d2] }
  | _ => none }
def lawS2578BKeptRow : OpenClaim := { program := "ybulkbaje", sum := "3ba4306564aeba10e0c01ba806157d8eb211e65770a1649b8256e4b06a465cb7", func := "example.com/shadowing/shadowing/packet.LawS2578BKept", spec := "lawS2578BKept", unfollowed := true, recurses := true, named := ["encoding/binary.LittleEndian"], apart := false }
def LawS2578BKeptSaid : Prop := lawS2578BKeptRow.holds Yba.pinned (OpenSpec.ofChange lawS2578BKeptSpec)

/-- ITS FALSE NEIGHBOUR: 'it returns false'. Refute it at one input. -/
def lawS2578BKeptWrong : ChangeSpec := { name := "lawS2578BKept", fn := fun _ => fun
  | [d1, d2] => { results := [.lit (.bool false)], args := [d1, d2] }
  | _ => none }
def LawS2578BKeptWrongFalsely : Prop := lawS2578BKeptRow.holds Yba.pinned (OpenSpec.ofChange lawS2578BKeptWrong)

end Rows
end Go.Proofs.Ybulkbaje
