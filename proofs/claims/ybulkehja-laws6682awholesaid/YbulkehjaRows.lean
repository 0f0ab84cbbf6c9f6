/-
  No cell of these rows narrows 'for every input' (looked for: loops, veiled, ifaces, maps, wideKeys, modest, calm, conditions, laid).
  DERIVED. THE GIVEN ROWS OF THIS SEAT. 2 by the template 'for every input the law returns true; each argument reads behind the call as it read before'; 0 by the template 'total and deterministic' (their statements: YbulkehjaTotals.lean).
  GIVEN WITH THE SEED: the statements are not yours to turn. If you find one false, say at which input.
  Laid BY PROGRAM, IN A SANDBOX (cutbox-rows.mjs): the forced cells as the released guide's own fill.sh prints them over the translation aec693ff8faf0f93… (all of the seat's roots in one cut). By AI agents, Wed Nov 11 2026. No macro, syntax, notation, axiom, sorry.
-/
import Derived.Test.YbulkehjaChecked
import GoSem.Claim
import GoSem.ClaimJoined
import GoSem.ClaimMapViews
import Derived.JoinedTies
import Derived.KernelRfl
namespace Go.Proofs.Ybulkehja
/- THE CELL 'sum', in the pinned program and in every row, IS THE sha256 OF THE DUMP (.gsa) THAT YbulkehjaProg.lean LOADS. Nothing in Lean hashes anything: it is a label: what it is worth is what the hold of that sum in a sandbox is worth. -/
noncomputable def Yba.pinned : Pinned := { name := "ybulkehja", sum := "aec693ff8faf0f93f250012277ceb409a00b5720398ada32d999521ba63f3cac", checked := Yba.checked }
namespace Rows
def none {H : Type} : Left H := { results := [], args := [] }

/-- 'consonance.LawS6682AWhole': WHATEVER THE INPUT: true; the input reads as it did. -/
def lawS6682AWholeSpec : ChangeSpec := { name := "lawS6682AWhole", fn := fun _ => fun
  | [d1, d2, d3, d4, d5, d6, d7, d8] => { results := [.lit (.bool true)], args := [d1, d2, d3, d4, d5, d6, d7, d8] }
  | _ => none }
def lawS6682AWholeRow : OpenClaim := { program := "ybulkehja", sum := "aec693ff8faf0f93f250012277ceb409a00b5720398ada32d999521ba63f3cac", func := "example.com/consonance/consonance.LawS6682AWhole", spec := "lawS6682AWhole", apart := false }
def LawS6682AWholeSaid : Prop := lawS6682AWholeRow.holds Yba.pinned (OpenSpec.ofChange lawS6682AWholeSpec)

/-- ITS FALSE NEIGHBOUR: 'it returns false'. Refute it at one input. -/
def lawS6682AWholeWrong : ChangeSpec := { name := "lawS6682AWhole", fn := fun _ => fun
  | [d1, d2, d3, d4, d5, d6, d7, d8] => { results := [.lit (.bool false)], args := [d1, d2, d3, d4, d5, d6, d7, d8] }
  | _ => none }
def LawS6682AWholeWrongFalsely : Prop := lawS6682AWholeRow.holds Yba.pinned (OpenSpec.ofChange lawS6682AWholeWrong)

/-- 'consonance.LawS6682CWhole': WHATEVER THE INPUT: true; the input reads as it did. -/
def lawS6682CWholeSpec : ChangeSpec := { name := "lawS6682CWhole", fn := fun _ => fun
  | [d1, d2, d3, d4] => { results := [.lit (.bool true)], args := [d1, d2, d3, d4] }
  | _ => none }
def lawS6682CWholeRow : OpenClaim := { program := "ybulkehja", sum := "aec693ff8faf0f93f250012277ceb409a00b5720398ada32d999521ba63f3cac", func := "example.com/consonance/consonance.LawS6682CWhole", spec := "lawS6682CWhole", apart := false }
def LawS6682CWholeSaid : Prop := lawS6682CWholeRow.holds Yba.pinned (OpenSpec.ofChange lawS6682CWholeSpec)

/-- ITS FALSE NEIGHBOUR: 'it returns false'. Refute it at one input. -/
def lawS6682CWholeWrong : ChangeSpec := { name := "lawS6682CWhole", fn := fun _ => fun
  | [d1, d2, d3, d4] => { results := [.lit (.bool false)], args := [d1, d2, d3, d4] }
  | _ => none }
def LawS6682CWholeWrongFalsely : Prop := lawS6682CWholeRow.holds Yba.pinned (OpenSpec.ofChange lawS6682CWholeWrong)

end Rows
end Go.Proofs.Ybulkehja
