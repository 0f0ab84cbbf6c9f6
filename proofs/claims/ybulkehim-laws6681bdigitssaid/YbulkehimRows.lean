/-
  No cell of these rows narrows 'for every input' (looked for: loops, veiled, ifaces, maps, wideKeys, modest, calm, conditions, laid).
  DERIVED. THE GIVEN ROWS OF THIS SEAT. 2 by the template 'for every input the law returns true; each argument reads behind the call as it read before'; 0 by the template 'total and deterministic' (their statements: YbulkehimTotals.lean).
  GIVEN WITH THE SEED: the statements are not yours to turn. If you find one false, say at which input.
  Laid BY PROGRAM, IN A SANDBOX (cutbox-rows.mjs): the forced cells as the released guide's own fill.sh prints them over the translation c4c04503c348cd18… (all of the seat's roots in one cut). By AI agents, Wed Nov 11 2026. No macro, syntax, notation, axiom, sorry.
-/
import Derived.Test.YbulkehimChecked
import GoSem.Claim
import GoSem.ClaimJoined
import GoSem.ClaimMapViews
import Derived.JoinedTies
import Derived.KernelRfl
namespace Go.Proofs.Ybulkehim
/- THE CELL 'sum', in the pinned program and in every row, IS THE sha256 OF THE DUMP (.gsa) THAT YbulkehimProg.lean LOADS. Nothing in Lean hashes anything: it is a label: what it is worth is what the hold of that sum in a sandbox is worth. -/
noncomputable def Yba.pinned : Pinned := { name := "ybulkehim", sum := "c4c04503c348cd184af5b0a6f3f27da799148ebcc236c09f5f75db4e298d76ba", checked := Yba.checked }
namespace Rows
def none {H : Type} : Left H := { results := [], args := [] }

/-- 'zhaomu.LawS6681BWhole': WHATEVER THE INPUT: true; the input reads as it did. -/
def lawS6681BWholeSpec : ChangeSpec := { name := "lawS6681BWhole", fn := fun _ => fun
  | [d] => { results := [.lit (.bool true)], args := [d] }
  | _ => none }
def lawS6681BWholeRow : OpenClaim := { program := "ybulkehim", sum := "c4c04503c348cd184af5b0a6f3f27da799148ebcc236c09f5f75db4e298d76ba", func := "example.com/zhaomu/zhaomu.LawS6681BWhole", spec := "lawS6681BWhole", apart := false }
def LawS6681BWholeSaid : Prop := lawS6681BWholeRow.holds Yba.pinned (OpenSpec.ofChange lawS6681BWholeSpec)

/-- ITS FALSE NEIGHBOUR: 'it returns false'. Refute it at one input. -/
def lawS6681BWholeWrong : ChangeSpec := { name := "lawS6681BWhole", fn := fun _ => fun
  | [d] => { results := [.lit (.bool false)], args := [d] }
  | _ => none }
def LawS6681BWholeWrongFalsely : Prop := lawS6681BWholeRow.holds Yba.pinned (OpenSpec.ofChange lawS6681BWholeWrong)

/-- 'zhaomu.LawS6681BDigits': WHATEVER THE INPUT: true; the input reads as it did. -/
def lawS6681BDigitsSpec : ChangeSpec := { name := "lawS6681BDigits", fn := fun _ => fun
  | [d1, d2, d3] => { results := [.lit (.bool true)], args := [d1, d2, d3] }
  | _ => none }
def lawS6681BDigitsRow : OpenClaim := { program := "ybulkehim", sum := "c4c04503c348cd184af5b0a6f3f27da799148ebcc236c09f5f75db4e298d76ba", func := "example.com/zhaomu/zhaomu.LawS6681BDigits", spec := "lawS6681BDigits", apart := false }
def LawS6681BDigitsSaid : Prop := lawS6681BDigitsRow.holds Yba.pinned (OpenSpec.ofChange lawS6681BDigitsSpec)

/-- ITS FALSE NEIGHBOUR: 'it returns false'. Refute it at one input. -/
def lawS6681BDigitsWrong : ChangeSpec := { name := "lawS6681BDigits", fn := fun _ => fun
  | [d1, d2, d3] => { results := [.lit (.bool false)], args := [d1, d2, d3] }
  | _ => none }
def LawS6681BDigitsWrongFalsely : Prop := lawS6681BDigitsRow.holds Yba.pinned (OpenSpec.ofChange lawS6681BDigitsWrong)

end Rows
end Go.Proofs.Ybulkehim
