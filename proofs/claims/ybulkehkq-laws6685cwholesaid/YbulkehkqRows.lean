/-
  No cell of these rows narrows 'for every input' (looked for: loops, veiled, ifaces, maps, wideKeys, modest, calm, conditions, laid).
  DERIVED. THE GIVEN ROWS OF THIS SEAT. 1 by the template 'for every input the law returns true; each argument reads behind the call as it read before'; 0 by the template 'total and deterministic' (their statements: YbulkehkqTotals.lean).
  GIVEN WITH THE SEED: the statements are not yours to turn. If you find one false, say at which input.
  Laid BY PROGRAM, IN A SANDBOX (cutbox-rows.mjs): the forced cells as the released guide's own fill.sh prints them over the translation 09a2d845b0016317… (all of the seat's roots in one cut). By AI agents, Wed Nov 11 2026. No macro, syntax, notation, axiom, sorry.
-/
import Derived.Test.YbulkehkqChecked
import GoSem.Claim
import GoSem.ClaimJoined
import GoSem.ClaimMapViews
import Derived.JoinedTies
import Derived.KernelRfl
namespace Go.Proofs.Ybulkehkq
/- THE CELL 'sum', in the pinned program and in every row, IS THE sha256 OF THE DUMP (.gsa) THAT YbulkehkqProg.lean LOADS. Nothing in Lean hashes anything: it is a label: what it is worth is what the hold of that sum in a sandbox is worth. -/
noncomputable def Yba.pinned : Pinned := { name := "ybulkehkq", sum := "09a2d845b001631713989c29c76e63f471cddf039b17241846dcb5d1c11e014f", checked := Yba.checked }
namespace Rows
def none {H : Type} : Left H := { results := [], args := [] }

/-- 'scheduler.LawS6685CWhole': WHATEVER THE INPUT: true; the input reads as it did. -/
def lawS6685CWholeSpec : ChangeSpec := { name := "lawS6685CWhole", fn := fun _ => fun
  | [d1, d2, d3, d4] => { results := [.lit (.bool true)], args := [d1, d2, d3, d4] }
  | _ => none }
def lawS6685CWholeRow : OpenClaim := { program := "ybulkehkq", sum := "09a2d845b001631713989c29c76e63f471cddf039b17241846dcb5d1c11e014f", func := "example.com/berth/berth/internal/scheduler.LawS6685CWhole", spec := "lawS6685CWhole", apart := false }
def LawS6685CWholeSaid : Prop := lawS6685CWholeRow.holds Yba.pinned (OpenSpec.ofChange lawS6685CWholeSpec)

/-- ITS FALSE NEIGHBOUR: 'it returns false'. Refute it at one input. -/
def lawS6685CWholeWrong : ChangeSpec := { name := "lawS6685CWhole", fn := fun _ => fun
  | [d1, d2, d3, d4] => { results := [.lit (.bool false)], args := [d1, d2, d3, d4] }
  | _ => none }
def LawS6685CWholeWrongFalsely : Prop := lawS6685CWholeRow.holds Yba.pinned (OpenSpec.ofChange lawS6685CWholeWrong)

end Rows
end Go.Proofs.Ybulkehkq
