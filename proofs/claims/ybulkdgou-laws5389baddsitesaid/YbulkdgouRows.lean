/-
  No cell of these rows narrows 'for every input' (looked for: loops, veiled, ifaces, maps, wideKeys, modest, calm, conditions, laid).
  DERIVED. THE GIVEN ROWS OF THIS SEAT. 3 by the template 'for every input the law returns true; each argument reads behind the call as it read before'; 0 by the template 'total and deterministic' (their statements: YbulkdgouTotals.lean).
  GIVEN WITH THE SEED: the statements are not yours to turn. If you find one false, say at which input.
  Laid BY PROGRAM, IN A SANDBOX (cutbox-rows.mjs): the forced cells as the released guide's own fill.sh prints them over the translation 9d10c0a024a5717a… (all of the seat's roots in one cut). By AI agents, Wed Nov 11 2026. No macro, syntax, notation, axiom, sorry.
-/
import Derived.Test.YbulkdgouChecked
import GoSem.Claim
import GoSem.ClaimJoined
import GoSem.ClaimMapViews
import Derived.JoinedTies
import Derived.KernelRfl
namespace Go.Proofs.Ybulkdgou
/- THE CELL 'sum', in the pinned program and in every row, IS THE sha256 OF THE DUMP (.gsa) THAT YbulkdgouProg.lean LOADS. Nothing in Lean hashes anything: it is a label: what it is worth is what the hold of that sum in a sandbox is worth. -/
noncomputable def Yba.pinned : Pinned := { name := "ybulkdgou", sum := "9d10c0a024a5717acfb6f356c98298aeb49238431e353e6a4a93449a0dcc1941", checked := Yba.checked }
namespace Rows
def none {H : Type} : Left H := { results := [], args := [] }

/-- 'check.LawS5389AModel': WHATEVER THE INPUT: true; the input reads as it did. -/
def lawS5389AModelSpec : ChangeSpec := { name := "lawS5389AModel", fn := fun _ => fun
  | [d1, d2, d3, d4] => { results := [.lit (.bool true)], args := [d1, d2, d3, d4] }
  | _ => none }
def lawS5389AModelRow : OpenClaim := { program := "ybulkdgou", sum := "9d10c0a024a5717acfb6f356c98298aeb49238431e353e6a4a93449a0dcc1941", func := "example.com/tattler/tattler/internal/check.LawS5389AModel", spec := "lawS5389AModel", apart := false }
def LawS5389AModelSaid : Prop := lawS5389AModelRow.holds Yba.pinned (OpenSpec.ofChange lawS5389AModelSpec)

/-- ITS FALSE NEIGHBOUR: 'it returns false'. Refute it at one input. -/
def lawS5389AModelWrong : ChangeSpec := { name := "lawS5389AModel", fn := fun _ => fun
  | [d1, d2, d3, d4] => { results := [.lit (.bool false)], args := [d1, d2, d3, d4] }
  | _ => none }
def LawS5389AModelWrongFalsely : Prop := lawS5389AModelRow.holds Yba.pinned (OpenSpec.ofChange lawS5389AModelWrong)

/-- 'check.LawS5389AMetric': WHATEVER THE INPUT: true; the input reads as it did. -/
def lawS5389AMetricSpec : ChangeSpec := { name := "lawS5389AMetric", fn := fun _ => fun
  | [d1, d2, d3, d4, d5] => { results := [.lit (.bool true)], args := [d1, d2, d3, d4, d5] }
  | _ => none }
def lawS5389AMetricRow : OpenClaim := { program := "ybulkdgou", sum := "9d10c0a024a5717acfb6f356c98298aeb49238431e353e6a4a93449a0dcc1941", func := "example.com/tattler/tattler/internal/check.LawS5389AMetric", spec := "lawS5389AMetric", apart := false }
def LawS5389AMetricSaid : Prop := lawS5389AMetricRow.holds Yba.pinned (OpenSpec.ofChange lawS5389AMetricSpec)

/-- ITS FALSE NEIGHBOUR: 'it returns false'. Refute it at one input. -/
def lawS5389AMetricWrong : ChangeSpec := { name := "lawS5389AMetric", fn := fun _ => fun
  | [d1, d2, d3, d4, d5] => { results := [.lit (.bool false)], args := [d1, d2, d3, d4, d5] }
  | _ => none }
def LawS5389AMetricWrongFalsely : Prop := lawS5389AMetricRow.holds Yba.pinned (OpenSpec.ofChange lawS5389AMetricWrong)

/-- 'isolation.LawS5389BAddSite': WHATEVER THE INPUT: true; the input reads as it did. -/
def lawS5389BAddSiteSpec : ChangeSpec := { name := "lawS5389BAddSite", fn := fun _ => fun
  | [d1, d2, d3, d4] => { results := [.lit (.bool true)], args := [d1, d2, d3, d4] }
  | _ => none }
def lawS5389BAddSiteRow : OpenClaim := { program := "ybulkdgou", sum := "9d10c0a024a5717acfb6f356c98298aeb49238431e353e6a4a93449a0dcc1941", func := "example.com/tattler/tattler/internal/isolation.LawS5389BAddSite", spec := "lawS5389BAddSite", unfollowed := true, recurses := true, apart := false }
def LawS5389BAddSiteSaid : Prop := lawS5389BAddSiteRow.holds Yba.pinned (OpenSpec.ofChange lawS5389BAddSiteSpec)

/-- ITS FALSE NEIGHBOUR: 'it returns false'. Refute it at one input. -/
def lawS5389BAddSiteWrong : ChangeSpec := { name := "lawS5389BAddSite", fn := fun _ => fun
  | [d1, d2, d3, d4] => { results := [.lit (.bool false)], args := [d1, d2, d3, d4] }
  | _ => none }
def LawS5389BAddSiteWrongFalsely : Prop := lawS5389BAddSiteRow.holds Yba.pinned (OpenSpec.ofChange lawS5389BAddSiteWrong)

end Rows
end Go.Proofs.Ybulkdgou
