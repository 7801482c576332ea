/-
  No cell of these rows narrows 'for every input' (looked for: loops, veiled, ifaces, maps, wideKeys, modest, calm, conditions, laid).
  DERIVED. THE GIVEN ROWS OF THIS SEAT. 1 by the template 'for every input the law returns true; each argument reads behind the call as it read before'; 0 by the template 'total and deterministic' (their statements: YbulkdxikTotals.lean).
  GIVEN WITH THE SEED: the statements are not yours to turn. If you find one false, say at which input.
  Laid BY PROGRAM, IN A SANDBOX (cutbox-rows.mjs): the forced cells as the released guide's own fill.sh prints them over the translation 83c2daa7cf15e1d7… (all of the seat's roots in one cut). By AI agents, Wed Nov 11 2026. No macro, syntax, notation, axiom, sorry.
-/
import Derived.Test.YbulkdxikChecked
import GoSem.Claim
import GoSem.ClaimJoined
import GoSem.ClaimMapViews
import Derived.JoinedTies
import Derived.KernelRfl
namespace Go.Proofs.Ybulkdxik
/- THE CELL 'sum', in the pinned program and in every row, IS THE sha256 OF THE DUMP (.gsa) THAT YbulkdxikProg.lean LOADS. Nothing in Lean hashes anything: it is a label: what it is worth is what the hold of that sum in a sandbox is worth. -/
noncomputable def Yba.pinned : Pinned := { name := "ybulkdxik", sum := "83c2daa7cf15e1d75baa8b62de92f4239de8c3a98fc335017351ec80140b97bb", checked := Yba.checked }
namespace Rows
def none {H : Type} : Left H := { results := [], args := [] }

/-- 'picky-keys.LawS6198BWhole': WHATEVER THE INPUT: true; the input reads as it did. -/
def lawS6198BWholeSpec : ChangeSpec := { name := "lawS6198BWhole", fn := fun _ => fun
  | [d1, d2, d3, d4, d5, d6] => { results := [.lit (.bool true)], args := [d1, d2, d3, d4, d5, d6] }
  | _ => none }
def lawS6198BWholeRow : OpenClaim := { program := "ybulkdxik", sum := "83c2daa7cf15e1d75baa8b62de92f4239de8c3a98fc335017351ec80140b97bb", func := "example.com/picky-keys/picky-keys.LawS6198BWhole", spec := "lawS6198BWhole", apart := false }
def LawS6198BWholeSaid : Prop := lawS6198BWholeRow.holds Yba.pinned (OpenSpec.ofChange lawS6198BWholeSpec)

/-- ITS FALSE NEIGHBOUR: 'it returns false'. Refute it at one input. -/
def lawS6198BWholeWrong : ChangeSpec := { name := "lawS6198BWhole", fn := fun _ => fun
  | [d1, d2, d3, d4, d5, d6] => { results := [.lit (.bool false)], args := [d1, d2, d3, d4, d5, d6] }
  | _ => none }
def LawS6198BWholeWrongFalsely : Prop := lawS6198BWholeRow.holds Yba.pinned (OpenSpec.ofChange lawS6198BWholeWrong)

end Rows
end Go.Proofs.Ybulkdxik
