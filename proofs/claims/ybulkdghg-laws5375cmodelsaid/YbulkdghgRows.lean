/-
  No cell of these rows narrows 'for every input' (looked for: loops, veiled, ifaces, maps, wideKeys, modest, calm, conditions, laid).
  DERIVED. THE GIVEN ROWS OF THIS SEAT. 2 by the template 'for every input the law returns true; each argument reads behind the call as it read before'; 0 by the template 'total and deterministic' (their statements: YbulkdghgTotals.lean).
  GIVEN WITH THE SEED: the statements are not yours to turn. If you find one false, say at which input.
  Laid BY PROGRAM, IN A SANDBOX (cutbox-rows.mjs): the forced cells as the released guide's own fill.sh prints them over the translation 68d26e2af3d24576… (all of the seat's roots in one cut). By AI agents, Wed Nov 11 2026. No macro, syntax, notation, axiom, sorry.
-/
import Derived.Test.YbulkdghgChecked
import GoSem.Claim
import GoSem.ClaimJoined
import GoSem.ClaimMapViews
import Derived.JoinedTies
import Derived.KernelRfl
namespace Go.Proofs.Ybulkdghg
/- THE CELL 'sum', in the pinned program and in every row, IS THE sha256 OF THE DUMP (.gsa) THAT YbulkdghgProg.lean LOADS. Nothing in Lean hashes anything: it is a label: what it is worth is what the hold of that sum in a sandbox is worth. -/
noncomputable def Yba.pinned : Pinned := { name := "ybulkdghg", sum := "68d26e2af3d245765692e2c799585fdf5aa0b3bbeaf8d0a02d7b198c42d08168", checked := Yba.checked }
namespace Rows
def none {H : Type} : Left H := { results := [], args := [] }

/-- 'farlink.LawS5375BForget': WHATEVER THE INPUT: true; the input reads as it did. -/
def lawS5375BForgetSpec : ChangeSpec := { name := "lawS5375BForget", fn := fun _ => fun
  | [d1, d2, d3] => { results := [.lit (.bool true)], args := [d1, d2, d3] }
  | _ => none }
def lawS5375BForgetRow : OpenClaim := { program := "ybulkdghg", sum := "68d26e2af3d245765692e2c799585fdf5aa0b3bbeaf8d0a02d7b198c42d08168", func := "example.com/farlink/farlink.LawS5375BForget", spec := "lawS5375BForget", plainKeys := false, apart := false }
def LawS5375BForgetSaid : Prop := lawS5375BForgetRow.holds Yba.pinned (OpenSpec.ofChange lawS5375BForgetSpec)

/-- ITS FALSE NEIGHBOUR: 'it returns false'. Refute it at one input. -/
def lawS5375BForgetWrong : ChangeSpec := { name := "lawS5375BForget", fn := fun _ => fun
  | [d1, d2, d3] => { results := [.lit (.bool false)], args := [d1, d2, d3] }
  | _ => none }
def LawS5375BForgetWrongFalsely : Prop := lawS5375BForgetRow.holds Yba.pinned (OpenSpec.ofChange lawS5375BForgetWrong)

/-- 'farlink.LawS5375CModel': WHATEVER THE INPUT: true; the input reads as it did. -/
def lawS5375CModelSpec : ChangeSpec := { name := "lawS5375CModel", fn := fun _ => fun
  | [d1, d2] => { results := [.lit (.bool true)], args := [d1, d2] }
  | _ => none }
def lawS5375CModelRow : OpenClaim := { program := "ybulkdghg", sum := "68d26e2af3d245765692e2c799585fdf5aa0b3bbeaf8d0a02d7b198c42d08168", func := "example.com/farlink/farlink.LawS5375CModel", spec := "lawS5375CModel", inPlace := ["math.Float64bits", "math.Float64frombits"], plainKeys := false, apart := false }
def LawS5375CModelSaid : Prop := lawS5375CModelRow.holds Yba.pinned (OpenSpec.ofChange lawS5375CModelSpec)

/-- ITS FALSE NEIGHBOUR: 'it returns false'. Refute it at one input. -/
def lawS5375CModelWrong : ChangeSpec := { name := "lawS5375CModel", fn := fun _ => fun
  | [d1, d2] => { results := [.lit (.bool false)], args := [d1, d2] }
  | _ => none }
def LawS5375CModelWrongFalsely : Prop := lawS5375CModelRow.holds Yba.pinned (OpenSpec.ofChange lawS5375CModelWrong)

end Rows
end Go.Proofs.Ybulkdghg
