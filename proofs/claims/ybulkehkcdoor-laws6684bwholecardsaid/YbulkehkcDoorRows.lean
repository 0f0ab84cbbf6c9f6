/-
  NARROWER THAN 'FOR EVERY INPUT', by the rows' own cells (each row's printed sentence says how): LawS6684BWhole: laid.
  DERIVED. THE GIVEN ROWS OF THIS SEAT. 1 by the template 'for every input the law returns true; each argument reads behind the call as it read before'; 0 by the template 'total and deterministic' (their statements: YbulkehkcDoorTotals.lean).
  GIVEN WITH THE SEED: the statements are not yours to turn. If you find one false, say at which input.
  Laid BY PROGRAM, IN A SANDBOX (cutbox-rows.mjs): the forced cells as the released guide's own fill.sh prints them over the translation 9a8f44823fd85ee3… (all of the seat's roots in one cut). By AI agents, Wed Nov 11 2026. No macro, syntax, notation, axiom, sorry.
-/
import Derived.Test.YbulkehkcDoorChecked
import GoSem.Claim
import GoSem.ClaimJoined
import GoSem.ClaimMapViews
import Derived.JoinedTies
import Derived.KernelRfl
namespace Go.Proofs.YbulkehkcDoor
/- THE CELL 'sum', in the pinned program and in every row, IS THE sha256 OF THE DUMP (.gsa) THAT YbulkehkcDoorProg.lean LOADS. Nothing in Lean hashes anything: it is a label: what it is worth is what the hold of that sum in a sandbox is worth. -/
noncomputable def Ybad.pinned : Pinned := { name := "ybulkehkcdoor", sum := "9a8f44823fd85ee3505a3e112b329896796876cf3e969108a7f08601143a681e", checked := Ybad.checked }
namespace Rows
def none {H : Type} : Left H := { results := [], args := [] }

/- WHAT THE LISTED PACKAGE-LEVEL VARIABLES READ AS WHEN THE CALL BEGINS. Each datum BY PROGRAM (the guide's laid-datum.mjs) off the statement by which the dump's own 'gosem.cut.vars' lays the variable. In a bare row this is a premise. The card (YbulkehkcDoorCards.lean) ties it to the program's text. -/
def laid_example_com_freechoice_freechoice_exchangeOf {H : Type} : DataW H := .agg [.lit (.int .i64 0), .lit (.int .i64 1), .lit (.int .i64 2), .lit (.int .i64 0), .lit (.int .i64 3), .lit (.int .i64 4), .lit (.int .i64 0), .lit (.int .i64 0), .lit (.int .i64 0)]

/-- 'freechoice.LawS6684BWhole': WHATEVER THE INPUT: true; the input reads as it did. -/
def lawS6684BWholeSpec : ChangeSpec := { name := "lawS6684BWhole", vars := ["example.com/freechoice/freechoice.exchangeOf"], fn := fun _ => fun
  | [d, g1] => { results := [.lit (.bool true)], args := [d], vars := [g1] }
  | _ => none }
def lawS6684BWholeRow : OpenClaim := { program := "ybulkehkcdoor", sum := "9a8f44823fd85ee3505a3e112b329896796876cf3e969108a7f08601143a681e", func := "example.com/freechoice/freechoice.LawS6684BWhole", spec := "lawS6684BWhole", named := ["example.com/freechoice/freechoice.exchangeOf"], apart := false, laid := [("example.com/freechoice/freechoice.exchangeOf", laid_example_com_freechoice_freechoice_exchangeOf)] }
def LawS6684BWholeSaid : Prop := lawS6684BWholeRow.holds Ybad.pinned (OpenSpec.ofChange lawS6684BWholeSpec)

/-- ITS FALSE NEIGHBOUR: 'it returns false'. Refute it at one input. -/
def lawS6684BWholeWrong : ChangeSpec := { name := "lawS6684BWhole", vars := ["example.com/freechoice/freechoice.exchangeOf"], fn := fun _ => fun
  | [d, g1] => { results := [.lit (.bool false)], args := [d], vars := [g1] }
  | _ => none }
def LawS6684BWholeWrongFalsely : Prop := lawS6684BWholeRow.holds Ybad.pinned (OpenSpec.ofChange lawS6684BWholeWrong)

end Rows
end Go.Proofs.YbulkehkcDoor
