/-
  No cell of these rows narrows 'for every input' (looked for: loops, veiled, ifaces, maps, wideKeys, modest, calm, conditions, laid).
  DERIVED. THE GIVEN ROWS OF THIS SEAT. 3 by the template 'for every input the law returns true; each argument reads behind the call as it read before'; 0 by the template 'total and deterministic' (their statements: YbulkdxguTotals.lean).
  GIVEN WITH THE SEED: the statements are not yours to turn. If you find one false, say at which input.
  Laid BY PROGRAM, IN A SANDBOX (cutbox-rows.mjs): the forced cells as the released guide's own fill.sh prints them over the translation c705ba633857a006… (all of the seat's roots in one cut). By AI agents, Wed Nov 11 2026. No macro, syntax, notation, axiom, sorry.
-/
import Derived.Test.YbulkdxguChecked
import GoSem.Claim
import GoSem.ClaimJoined
import GoSem.ClaimMapViews
import Derived.JoinedTies
import Derived.KernelRfl
namespace Go.Proofs.Ybulkdxgu
/- THE CELL 'sum', in the pinned program and in every row, IS THE sha256 OF THE DUMP (.gsa) THAT YbulkdxguProg.lean LOADS. Nothing in Lean hashes anything: it is a label: what it is worth is what the hold of that sum in a sandbox is worth. -/
noncomputable def Yba.pinned : Pinned := { name := "ybulkdxgu", sum := "c705ba633857a006008522a0e405bc31e8fd3860918d9559099f3f505e212fd0", checked := Yba.checked }
namespace Rows
def none {H : Type} : Left H := { results := [], args := [] }

/-- 'simulate.LawS6195AWhole': WHATEVER THE INPUT: true; the input reads as it did. -/
def lawS6195AWholeSpec : ChangeSpec := { name := "lawS6195AWhole", fn := fun _ => fun
  | [d] => { results := [.lit (.bool true)], args := [d] }
  | _ => none }
def lawS6195AWholeRow : OpenClaim := { program := "ybulkdxgu", sum := "c705ba633857a006008522a0e405bc31e8fd3860918d9559099f3f505e212fd0", func := "example.com/holdfast/holdfast/pkg/simulate.LawS6195AWhole", spec := "lawS6195AWhole", inPlace := ["math/bits.Add64"], named := ["math/bits.divideError", "math/bits.overflowError"], apart := false }
def LawS6195AWholeSaid : Prop := lawS6195AWholeRow.holds Yba.pinned (OpenSpec.ofChange lawS6195AWholeSpec)

/-- ITS FALSE NEIGHBOUR: 'it returns false'. Refute it at one input. -/
def lawS6195AWholeWrong : ChangeSpec := { name := "lawS6195AWhole", fn := fun _ => fun
  | [d] => { results := [.lit (.bool false)], args := [d] }
  | _ => none }
def LawS6195AWholeWrongFalsely : Prop := lawS6195AWholeRow.holds Yba.pinned (OpenSpec.ofChange lawS6195AWholeWrong)

/-- 'simulate.LawS6195CWhole': WHATEVER THE INPUT: true; the input reads as it did. -/
def lawS6195CWholeSpec : ChangeSpec := { name := "lawS6195CWhole", fn := fun _ => fun
  | [d1, d2, d3, d4] => { results := [.lit (.bool true)], args := [d1, d2, d3, d4] }
  | _ => none }
def lawS6195CWholeRow : OpenClaim := { program := "ybulkdxgu", sum := "c705ba633857a006008522a0e405bc31e8fd3860918d9559099f3f505e212fd0", func := "example.com/holdfast/holdfast/pkg/simulate.LawS6195CWhole", spec := "lawS6195CWhole", apart := false }
def LawS6195CWholeSaid : Prop := lawS6195CWholeRow.holds Yba.pinned (OpenSpec.ofChange lawS6195CWholeSpec)

/-- ITS FALSE NEIGHBOUR: 'it returns false'. Refute it at one input. -/
def lawS6195CWholeWrong : ChangeSpec := { name := "lawS6195CWhole", fn := fun _ => fun
  | [d1, d2, d3, d4] => { results := [.lit (.bool false)], args := [d1, d2, d3, d4] }
  | _ => none }
def LawS6195CWholeWrongFalsely : Prop := lawS6195CWholeRow.holds Yba.pinned (OpenSpec.ofChange lawS6195CWholeWrong)

/-- 'simulate.LawS6195CPushMin': WHATEVER THE INPUT: true; the input reads as it did. -/
def lawS6195CPushMinSpec : ChangeSpec := { name := "lawS6195CPushMin", fn := fun _ => fun
  | [d] => { results := [.lit (.bool true)], args := [d] }
  | _ => none }
def lawS6195CPushMinRow : OpenClaim := { program := "ybulkdxgu", sum := "c705ba633857a006008522a0e405bc31e8fd3860918d9559099f3f505e212fd0", func := "example.com/holdfast/holdfast/pkg/simulate.LawS6195CPushMin", spec := "lawS6195CPushMin", apart := false }
def LawS6195CPushMinSaid : Prop := lawS6195CPushMinRow.holds Yba.pinned (OpenSpec.ofChange lawS6195CPushMinSpec)

/-- ITS FALSE NEIGHBOUR: 'it returns false'. Refute it at one input. -/
def lawS6195CPushMinWrong : ChangeSpec := { name := "lawS6195CPushMin", fn := fun _ => fun
  | [d] => { results := [.lit (.bool false)], args := [d] }
  | _ => none }
def LawS6195CPushMinWrongFalsely : Prop := lawS6195CPushMinRow.holds Yba.pinned (OpenSpec.ofChange lawS6195CPushMinWrong)

end Rows
end Go.Proofs.Ybulkdxgu
