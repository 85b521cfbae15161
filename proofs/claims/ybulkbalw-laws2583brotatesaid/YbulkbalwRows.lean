/-
  No cell of these rows narrows 'for every input' (looked for: loops, veiled, ifaces, maps, wideKeys, modest, calm, conditions, laid).
  DERIVED. THE GIVEN ROWS OF THIS SEAT. 5 by the template 'for every input the law returns true; each argument reads behind the call as it read before'; 0 by the template 'total and deterministic' (their statements: YbulkbalwTotals.lean).
  GIVEN WITH THE SEED: the statements are not yours to turn. If you find one false, say at which input.
  Laid BY PROGRAM, IN A SANDBOX (cutbox-rows.mjs): the forced cells as the released guide's own fill.sh prints them over the translation 5ca9dd33295c9e68… (all of the seat's roots in one cut). By AI agents, Wed Nov 11 2026. No macro, syntax, notation, axiom, sorry.
-/
import Derived.Test.YbulkbalwChecked
import GoSem.Claim
import GoSem.ClaimJoined
import GoSem.ClaimMapViews
import Derived.JoinedTies
import Derived.KernelRfl
namespace Go.Proofs.Ybulkbalw
/- THE CELL 'sum', in the pinned program and in every row, IS THE sha256 OF THE DUMP (.gsa) THAT YbulkbalwProg.lean LOADS. Nothing in Lean hashes anything: it is a label: what it is worth is what the hold of that sum in a sandbox is worth. -/
noncomputable def Yba.pinned : Pinned := { name := "ybulkbalw", sum := "5ca9dd33295c9e6808b72fa9f3e206aea8b0fed59c44ff72448ab91764cc0b41", checked := Yba.checked }
namespace Rows
def none {H : Type} : Left H := { results := [], args := [] }

/-- 'store.LawS2583AKeep': WHATEVER THE INPUT: true; the input reads as it did. -/
def lawS2583AKeepSpec : ChangeSpec := { name := "lawS2583AKeep", fn := fun _ => fun
  | [d1, d2, d3, d4, d5] => { results := [.lit (.bool true)], args := [d1, d2, d3, d4, d5] }
  | _ => none }
def lawS2583AKeepRow : OpenClaim := { program := "ybulkbalw", sum := "5ca9dd33295c9e6808b72fa9f3e206aea8b0fed59c44ff72448ab91764cc0b41", func := "example.com/tidemark/tidemark/store.LawS2583AKeep", spec := "lawS2583AKeep", apart := false }
def LawS2583AKeepSaid : Prop := lawS2583AKeepRow.holds Yba.pinned (OpenSpec.ofChange lawS2583AKeepSpec)

/-- ITS FALSE NEIGHBOUR: 'it returns false'. Refute it at one input. -/
def lawS2583AKeepWrong : ChangeSpec := { name := "lawS2583AKeep", fn := fun _ => fun
  | [d1, d2, d3, d4, d5] => { results := [.lit (.bool false)], args := [d1, d2, d3, d4, d5] }
  | _ => none }
def LawS2583AKeepWrongFalsely : Prop := lawS2583AKeepRow.holds Yba.pinned (OpenSpec.ofChange lawS2583AKeepWrong)

/-- 'store.LawS2583AFirst': WHATEVER THE INPUT: true; the input reads as it did. -/
def lawS2583AFirstSpec : ChangeSpec := { name := "lawS2583AFirst", fn := fun _ => fun
  | [d1, d2] => { results := [.lit (.bool true)], args := [d1, d2] }
  | _ => none }
def lawS2583AFirstRow : OpenClaim := { program := "ybulkbalw", sum := "5ca9dd33295c9e6808b72fa9f3e206aea8b0fed59c44ff72448ab91764cc0b41", func := "example.com/tidemark/tidemark/store.LawS2583AFirst", spec := "lawS2583AFirst", apart := false }
def LawS2583AFirstSaid : Prop := lawS2583AFirstRow.holds Yba.pinned (OpenSpec.ofChange lawS2583AFirstSpec)

/-- ITS FALSE NEIGHBOUR: 'it returns false'. Refute it at one input. -/
def lawS2583AFirstWrong : ChangeSpec := { name := "lawS2583AFirst", fn := fun _ => fun
  | [d1, d2] => { results := [.lit (.bool false)], args := [d1, d2] }
  | _ => none }
def LawS2583AFirstWrongFalsely : Prop := lawS2583AFirstRow.holds Yba.pinned (OpenSpec.ofChange lawS2583AFirstWrong)

/-- 'store.LawS2583BLinear': WHATEVER THE INPUT: true; the input reads as it did. -/
def lawS2583BLinearSpec : ChangeSpec := { name := "lawS2583BLinear", fn := fun _ => fun
  | [d1, d2, d3] => { results := [.lit (.bool true)], args := [d1, d2, d3] }
  | _ => none }
def lawS2583BLinearRow : OpenClaim := { program := "ybulkbalw", sum := "5ca9dd33295c9e6808b72fa9f3e206aea8b0fed59c44ff72448ab91764cc0b41", func := "example.com/tidemark/tidemark/store.LawS2583BLinear", spec := "lawS2583BLinear", apart := false }
def LawS2583BLinearSaid : Prop := lawS2583BLinearRow.holds Yba.pinned (OpenSpec.ofChange lawS2583BLinearSpec)

/-- ITS FALSE NEIGHBOUR: 'it returns false'. Refute it at one input. -/
def lawS2583BLinearWrong : ChangeSpec := { name := "lawS2583BLinear", fn := fun _ => fun
  | [d1, d2, d3] => { results := [.lit (.bool false)], args := [d1, d2, d3] }
  | _ => none }
def LawS2583BLinearWrongFalsely : Prop := lawS2583BLinearRow.holds Yba.pinned (OpenSpec.ofChange lawS2583BLinearWrong)

/-- 'store.LawS2583BColumn': WHATEVER THE INPUT: true; the input reads as it did. -/
def lawS2583BColumnSpec : ChangeSpec := { name := "lawS2583BColumn", fn := fun _ => fun
  | [d1, d2] => { results := [.lit (.bool true)], args := [d1, d2] }
  | _ => none }
def lawS2583BColumnRow : OpenClaim := { program := "ybulkbalw", sum := "5ca9dd33295c9e6808b72fa9f3e206aea8b0fed59c44ff72448ab91764cc0b41", func := "example.com/tidemark/tidemark/store.LawS2583BColumn", spec := "lawS2583BColumn", apart := false }
def LawS2583BColumnSaid : Prop := lawS2583BColumnRow.holds Yba.pinned (OpenSpec.ofChange lawS2583BColumnSpec)

/-- ITS FALSE NEIGHBOUR: 'it returns false'. Refute it at one input. -/
def lawS2583BColumnWrong : ChangeSpec := { name := "lawS2583BColumn", fn := fun _ => fun
  | [d1, d2] => { results := [.lit (.bool false)], args := [d1, d2] }
  | _ => none }
def LawS2583BColumnWrongFalsely : Prop := lawS2583BColumnRow.holds Yba.pinned (OpenSpec.ofChange lawS2583BColumnWrong)

/-- 'store.LawS2583BRotate': WHATEVER THE INPUT: true; the input reads as it did. -/
def lawS2583BRotateSpec : ChangeSpec := { name := "lawS2583BRotate", fn := fun _ => fun
  | [d] => { results := [.lit (.bool true)], args := [d] }
  | _ => none }
def lawS2583BRotateRow : OpenClaim := { program := "ybulkbalw", sum := "5ca9dd33295c9e6808b72fa9f3e206aea8b0fed59c44ff72448ab91764cc0b41", func := "example.com/tidemark/tidemark/store.LawS2583BRotate", spec := "lawS2583BRotate", apart := false }
def LawS2583BRotateSaid : Prop := lawS2583BRotateRow.holds Yba.pinned (OpenSpec.ofChange lawS2583BRotateSpec)

/-- ITS FALSE NEIGHBOUR: 'it returns false'. Refute it at one input. -/
def lawS2583BRotateWrong : ChangeSpec := { name := "lawS2583BRotate", fn := fun _ => fun
  | [d] => { results := [.lit (.bool false)], args := [d] }
  | _ => none }
def LawS2583BRotateWrongFalsely : Prop := lawS2583BRotateRow.holds Yba.pinned (OpenSpec.ofChange lawS2583BRotateWrong)

end Rows
end Go.Proofs.Ybulkbalw
