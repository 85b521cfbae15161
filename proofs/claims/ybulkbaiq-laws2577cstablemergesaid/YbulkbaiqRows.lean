/-
  No cell of these rows narrows 'for every input' (looked for: loops, veiled, ifaces, maps, wideKeys, modest, calm, conditions, laid).
  DERIVED. THE GIVEN ROWS OF THIS SEAT. 5 by the template 'for every input the law returns true; each argument reads behind the call as it read before'; 0 by the template 'total and deterministic' (their statements: YbulkbaiqTotals.lean).
  GIVEN WITH THE SEED: the statements are not yours to turn. If you find one false, say at which input.
  Laid BY PROGRAM, IN A SANDBOX (cutbox-rows.mjs): the forced cells as the released guide's own fill.sh prints them over the translation 34d086a143d27c93… (all of the seat's roots in one cut). By AI agents, Wed Nov 11 2026. No macro, syntax, notation, axiom, sorry.
-/
import Derived.Test.YbulkbaiqChecked
import GoSem.Claim
import GoSem.ClaimJoined
import GoSem.ClaimMapViews
import Derived.JoinedTies
import Derived.KernelRfl
namespace Go.Proofs.Ybulkbaiq
/- THE CELL 'sum', in the pinned program and in every row, IS THE sha256 OF THE DUMP (.gsa) THAT YbulkbaiqProg.lean LOADS. Nothing in Lean hashes anything: it is a label: what it is worth is what the hold of that sum in a sandbox is worth. -/
noncomputable def Yba.pinned : Pinned := { name := "ybulkbaiq", sum := "34d086a143d27c9393ead8bf6b5fa41bdda6c8a4017b236e72c441ad905f01d2", checked := Yba.checked }
namespace Rows
def none {H : Type} : Left H := { results := [], args := [] }

/-- 'prefs2d.LawS2577ACases': WHATEVER THE INPUT: true; the input reads as it did. -/
def lawS2577ACasesSpec : ChangeSpec := { name := "lawS2577ACases", fn := fun _ => fun
  | [d1, d2, d3] => { results := [.lit (.bool true)], args := [d1, d2, d3] }
  | _ => none }
def lawS2577ACasesRow : OpenClaim := { program := "ybulkbaiq", sum := "34d086a143d27c9393ead8bf6b5fa41bdda6c8a4017b236e72c441ad905f01d2", func := "example.com/prefs2d/prefs2d.LawS2577ACases", spec := "lawS2577ACases", apart := false }
def LawS2577ACasesSaid : Prop := lawS2577ACasesRow.holds Yba.pinned (OpenSpec.ofChange lawS2577ACasesSpec)

/-- ITS FALSE NEIGHBOUR: 'it returns false'. Refute it at one input. -/
def lawS2577ACasesWrong : ChangeSpec := { name := "lawS2577ACases", fn := fun _ => fun
  | [d1, d2, d3] => { results := [.lit (.bool false)], args := [d1, d2, d3] }
  | _ => none }
def LawS2577ACasesWrongFalsely : Prop := lawS2577ACasesRow.holds Yba.pinned (OpenSpec.ofChange lawS2577ACasesWrong)

/-- 'prefs2d.LawS2577AKeeps': WHATEVER THE INPUT: true; the input reads as it did. -/
def lawS2577AKeepsSpec : ChangeSpec := { name := "lawS2577AKeeps", fn := fun _ => fun
  | [d1, d2, d3, d4] => { results := [.lit (.bool true)], args := [d1, d2, d3, d4] }
  | _ => none }
def lawS2577AKeepsRow : OpenClaim := { program := "ybulkbaiq", sum := "34d086a143d27c9393ead8bf6b5fa41bdda6c8a4017b236e72c441ad905f01d2", func := "example.com/prefs2d/prefs2d.LawS2577AKeeps", spec := "lawS2577AKeeps", apart := false }
def LawS2577AKeepsSaid : Prop := lawS2577AKeepsRow.holds Yba.pinned (OpenSpec.ofChange lawS2577AKeepsSpec)

/-- ITS FALSE NEIGHBOUR: 'it returns false'. Refute it at one input. -/
def lawS2577AKeepsWrong : ChangeSpec := { name := "lawS2577AKeeps", fn := fun _ => fun
  | [d1, d2, d3, d4] => { results := [.lit (.bool false)], args := [d1, d2, d3, d4] }
  | _ => none }
def LawS2577AKeepsWrongFalsely : Prop := lawS2577AKeepsRow.holds Yba.pinned (OpenSpec.ofChange lawS2577AKeepsWrong)

/-- 'prefs2d.LawS2577BEvents': WHATEVER THE INPUT: true; the input reads as it did. -/
def lawS2577BEventsSpec : ChangeSpec := { name := "lawS2577BEvents", fn := fun _ => fun
  | [d1, d2] => { results := [.lit (.bool true)], args := [d1, d2] }
  | _ => none }
def lawS2577BEventsRow : OpenClaim := { program := "ybulkbaiq", sum := "34d086a143d27c9393ead8bf6b5fa41bdda6c8a4017b236e72c441ad905f01d2", func := "example.com/prefs2d/prefs2d.LawS2577BEvents", spec := "lawS2577BEvents", inPlace := ["internal/bytealg.IndexByteString"], unfollowed := true, recurses := true, apart := false }
def LawS2577BEventsSaid : Prop := lawS2577BEventsRow.holds Yba.pinned (OpenSpec.ofChange lawS2577BEventsSpec)

/-- ITS FALSE NEIGHBOUR: 'it returns false'. Refute it at one input. -/
def lawS2577BEventsWrong : ChangeSpec := { name := "lawS2577BEvents", fn := fun _ => fun
  | [d1, d2] => { results := [.lit (.bool false)], args := [d1, d2] }
  | _ => none }
def LawS2577BEventsWrongFalsely : Prop := lawS2577BEventsRow.holds Yba.pinned (OpenSpec.ofChange lawS2577BEventsWrong)

/-- 'prefs2d.LawS2577CStableMerge': WHATEVER THE INPUT: true; the input reads as it did. -/
def lawS2577CStableMergeSpec : ChangeSpec := { name := "lawS2577CStableMerge", fn := fun _ => fun
  | [d1, d2, d3, d4] => { results := [.lit (.bool true)], args := [d1, d2, d3, d4] }
  | _ => none }
def lawS2577CStableMergeRow : OpenClaim := { program := "ybulkbaiq", sum := "34d086a143d27c9393ead8bf6b5fa41bdda6c8a4017b236e72c441ad905f01d2", func := "example.com/prefs2d/prefs2d.LawS2577CStableMerge", spec := "lawS2577CStableMerge", unfollowed := true, recurses := true, apart := false }
def LawS2577CStableMergeSaid : Prop := lawS2577CStableMergeRow.holds Yba.pinned (OpenSpec.ofChange lawS2577CStableMergeSpec)

/-- ITS FALSE NEIGHBOUR: 'it returns false'. Refute it at one input. -/
def lawS2577CStableMergeWrong : ChangeSpec := { name := "lawS2577CStableMerge", fn := fun _ => fun
  | [d1, d2, d3, d4] => { results := [.lit (.bool false)], args := [d1, d2, d3, d4] }
  | _ => none }
def LawS2577CStableMergeWrongFalsely : Prop := lawS2577CStableMergeRow.holds Yba.pinned (OpenSpec.ofChange lawS2577CStableMergeWrong)

/-- 'prefs2d.LawS2577CInterleave': WHATEVER THE INPUT: true; the input reads as it did. -/
def lawS2577CInterleaveSpec : ChangeSpec := { name := "lawS2577CInterleave", fn := fun _ => fun
  | [d1, d2] => { results := [.lit (.bool true)], args := [d1, d2] }
  | _ => none }
def lawS2577CInterleaveRow : OpenClaim := { program := "ybulkbaiq", sum := "34d086a143d27c9393ead8bf6b5fa41bdda6c8a4017b236e72c441ad905f01d2", func := "example.com/prefs2d/prefs2d.LawS2577CInterleave", spec := "lawS2577CInterleave", apart := false }
def LawS2577CInterleaveSaid : Prop := lawS2577CInterleaveRow.holds Yba.pinned (OpenSpec.ofChange lawS2577CInterleaveSpec)

/-- ITS FALSE NEIGHBOUR: 'it returns false'. Refute it at one input. -/
def lawS2577CInterleaveWrong : ChangeSpec := { name := "lawS2577CInterleave", fn := fun _ => fun
  | [d1, d2] => { results := [.lit (.bool false)], args := [d1, d2] }
  | _ => none }
def LawS2577CInterleaveWrongFalsely : Prop := lawS2577CInterleaveRow.holds Yba.pinned (OpenSpec.ofChange lawS2577CInterleaveWrong)

end Rows
end Go.Proofs.Ybulkbaiq
