/-
  No cell of these rows narrows 'for every input' (looked for: loops, veiled, ifaces, maps, wideKeys, modest, calm, conditions, laid).
  DERIVED. THE GIVEN ROWS OF THIS SEAT. 1 by the template 'for every input the law returns true; each argument reads behind the call as it read before'; 0 by the template 'total and deterministic' (their statements: YbulkehkcTotals.lean).
  GIVEN WITH THE SEED: the statements are not yours to turn. If you find one false, say at which input.
  Laid BY PROGRAM, IN A SANDBOX (cutbox-rows.mjs): the forced cells as the released guide's own fill.sh prints them over the translation 2510121e29473873… (all of the seat's roots in one cut). By AI agents, Wed Nov 11 2026. No macro, syntax, notation, axiom, sorry.
-/
import Derived.Test.YbulkehkcChecked
import GoSem.Claim
import GoSem.ClaimJoined
import GoSem.ClaimMapViews
import Derived.JoinedTies
import Derived.KernelRfl
namespace Go.Proofs.Ybulkehkc
/- THE CELL 'sum', in the pinned program and in every row, IS THE sha256 OF THE DUMP (.gsa) THAT YbulkehkcProg.lean LOADS. Nothing in Lean hashes anything: it is a label: what it is worth is what the hold of that sum in a sandbox is worth. -/
noncomputable def Yba.pinned : Pinned := { name := "ybulkehkc", sum := "2510121e29473873917a35b331fec2ee1afcb4ea43230ff68980b0f91fe2f543", checked := Yba.checked }
namespace Rows
def none {H : Type} : Left H := { results := [], args := [] }

/-- 'freechoice.LawS6684AWhole': WHATEVER THE INPUT: true; the input reads as it did. -/
def lawS6684AWholeSpec : ChangeSpec := { name := "lawS6684AWhole", fn := fun _ => fun
  | [d1, d2, d3, d4, d5, d6] => { results := [.lit (.bool true)], args := [d1, d2, d3, d4, d5, d6] }
  | _ => none }
def lawS6684AWholeRow : OpenClaim := { program := "ybulkehkc", sum := "2510121e29473873917a35b331fec2ee1afcb4ea43230ff68980b0f91fe2f543", func := "example.com/freechoice/freechoice.LawS6684AWhole", spec := "lawS6684AWhole", unfollowed := true, recurses := true, apart := false }
def LawS6684AWholeSaid : Prop := lawS6684AWholeRow.holds Yba.pinned (OpenSpec.ofChange lawS6684AWholeSpec)

/-- ITS FALSE NEIGHBOUR: 'it returns false'. Refute it at one input. -/
def lawS6684AWholeWrong : ChangeSpec := { name := "lawS6684AWhole", fn := fun _ => fun
  | [d1, d2, d3, d4, d5, d6] => { results := [.lit (.bool false)], args := [d1, d2, d3, d4, d5, d6] }
  | _ => none }
def LawS6684AWholeWrongFalsely : Prop := lawS6684AWholeRow.holds Yba.pinned (OpenSpec.ofChange lawS6684AWholeWrong)

end Rows
end Go.Proofs.Ybulkehkc
