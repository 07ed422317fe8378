/-
  No cell of these rows narrows 'for every input' (looked for: loops, veiled, ifaces, maps, wideKeys, modest, calm, conditions, laid).
  DERIVED. THE GIVEN ROWS OF THIS SEAT. 2 by the template 'for every input the law returns true; each argument reads behind the call as it read before'; 0 by the template 'total and deterministic' (their statements: YbulkdgjyTotals.lean).
  GIVEN WITH THE SEED: the statements are not yours to turn. If you find one false, say at which input.
  Laid BY PROGRAM, IN A SANDBOX (cutbox-rows.mjs): the forced cells as the released guide's own fill.sh prints them over the translation 2ff090badb45a1c7… (all of the seat's roots in one cut). By AI agents, Wed Nov 11 2026. No macro, syntax, notation, axiom, sorry.
-/
import Derived.Test.YbulkdgjyChecked
import GoSem.Claim
import GoSem.ClaimJoined
import GoSem.ClaimMapViews
import Derived.JoinedTies
import Derived.KernelRfl
namespace Go.Proofs.Ybulkdgjy
/- THE CELL 'sum', in the pinned program and in every row, IS THE sha256 OF THE DUMP (.gsa) THAT YbulkdgjyProg.lean LOADS. Nothing in Lean hashes anything: it is a label: what it is worth is what the hold of that sum in a sandbox is worth. -/
noncomputable def Yba.pinned : Pinned := { name := "ybulkdgjy", sum := "2ff090badb45a1c741588b668934e8da8bd1ced03dfbebe2d5ba612b5619d62c", checked := Yba.checked }
namespace Rows
def none {H : Type} : Left H := { results := [], args := [] }

/-- 'snapshot.LawS5380BScript': WHATEVER THE INPUT: true; the input reads as it did. -/
def lawS5380BScriptSpec : ChangeSpec := { name := "lawS5380BScript", fn := fun _ => fun
  | [d1, d2] => { results := [.lit (.bool true)], args := [d1, d2] }
  | _ => none }
def lawS5380BScriptRow : OpenClaim := { program := "ybulkdgjy", sum := "2ff090badb45a1c741588b668934e8da8bd1ced03dfbebe2d5ba612b5619d62c", func := "example.com/chronoweft/chronoweft/snapshot.LawS5380BScript", spec := "lawS5380BScript", apart := false }
def LawS5380BScriptSaid : Prop := lawS5380BScriptRow.holds Yba.pinned (OpenSpec.ofChange lawS5380BScriptSpec)

/-- ITS FALSE NEIGHBOUR: 'it returns false'. Refute it at one input. -/
def lawS5380BScriptWrong : ChangeSpec := { name := "lawS5380BScript", fn := fun _ => fun
  | [d1, d2] => { results := [.lit (.bool false)], args := [d1, d2] }
  | _ => none }
def LawS5380BScriptWrongFalsely : Prop := lawS5380BScriptRow.holds Yba.pinned (OpenSpec.ofChange lawS5380BScriptWrong)

/-- 'snapshot.LawS5380BOne': WHATEVER THE INPUT: true; the input reads as it did. -/
def lawS5380BOneSpec : ChangeSpec := { name := "lawS5380BOne", fn := fun _ => fun
  | [d1, d2, d3] => { results := [.lit (.bool true)], args := [d1, d2, d3] }
  | _ => none }
def lawS5380BOneRow : OpenClaim := { program := "ybulkdgjy", sum := "2ff090badb45a1c741588b668934e8da8bd1ced03dfbebe2d5ba612b5619d62c", func := "example.com/chronoweft/chronoweft/snapshot.LawS5380BOne", spec := "lawS5380BOne", apart := false }
def LawS5380BOneSaid : Prop := lawS5380BOneRow.holds Yba.pinned (OpenSpec.ofChange lawS5380BOneSpec)

/-- ITS FALSE NEIGHBOUR: 'it returns false'. Refute it at one input. -/
def lawS5380BOneWrong : ChangeSpec := { name := "lawS5380BOne", fn := fun _ => fun
  | [d1, d2, d3] => { results := [.lit (.bool false)], args := [d1, d2, d3] }
  | _ => none }
def LawS5380BOneWrongFalsely : Prop := lawS5380BOneRow.holds Yba.pinned (OpenSpec.ofChange lawS5380BOneWrong)

end Rows
end Go.Proofs.Ybulkdgjy
