/-
  No cell of these rows narrows 'for every input' (looked for: loops, veiled, ifaces, maps, wideKeys, modest, calm, conditions, laid).
  DERIVED. THE GIVEN ROWS OF THIS SEAT. 1 by the template 'for every input the law returns true; each argument reads behind the call as it read before'; 0 by the template 'total and deterministic' (their statements: YbulkdxjmTotals.lean).
  GIVEN WITH THE SEED: the statements are not yours to turn. If you find one false, say at which input.
  Laid BY PROGRAM, IN A SANDBOX (cutbox-rows.mjs): the forced cells as the released guide's own fill.sh prints them over the translation 1e898017d2e30d32… (all of the seat's roots in one cut). By AI agents, Wed Nov 11 2026. No macro, syntax, notation, axiom, sorry.
-/
import Derived.Test.YbulkdxjmChecked
import GoSem.Claim
import GoSem.ClaimJoined
import GoSem.ClaimMapViews
import Derived.JoinedTies
import Derived.KernelRfl
namespace Go.Proofs.Ybulkdxjm
/- THE CELL 'sum', in the pinned program and in every row, IS THE sha256 OF THE DUMP (.gsa) THAT YbulkdxjmProg.lean LOADS. Nothing in Lean hashes anything: it is a label: what it is worth is what the hold of that sum in a sandbox is worth. -/
noncomputable def Yba.pinned : Pinned := { name := "ybulkdxjm", sum := "1e898017d2e30d323c754dd5b38be841770c700e626a6f0a8653ec02c84b5e85", checked := Yba.checked }
namespace Rows
def none {H : Type} : Left H := { results := [], args := [] }

/-- 'pdu.LawS6200BWhole': WHATEVER THE INPUT: true; the input reads as it did. -/
def lawS6200BWholeSpec : ChangeSpec := { name := "lawS6200BWhole", fn := fun _ => fun
  | [d] => { results := [.lit (.bool true)], args := [d] }
  | _ => none }
def lawS6200BWholeRow : OpenClaim := { program := "ybulkdxjm", sum := "1e898017d2e30d323c754dd5b38be841770c700e626a6f0a8653ec02c84b5e85", func := "example.com/gbwire/gbwire/internal/pdu.LawS6200BWhole", spec := "lawS6200BWhole", apart := false }
def LawS6200BWholeSaid : Prop := lawS6200BWholeRow.holds Yba.pinned (OpenSpec.ofChange lawS6200BWholeSpec)

/-- ITS FALSE NEIGHBOUR: 'it returns false'. Refute it at one input. -/
def lawS6200BWholeWrong : ChangeSpec := { name := "lawS6200BWhole", fn := fun _ => fun
  | [d] => { results := [.lit (.bool false)], args := [d] }
  | _ => none }
def LawS6200BWholeWrongFalsely : Prop := lawS6200BWholeRow.holds Yba.pinned (OpenSpec.ofChange lawS6200BWholeWrong)

end Rows
end Go.Proofs.Ybulkdxjm
