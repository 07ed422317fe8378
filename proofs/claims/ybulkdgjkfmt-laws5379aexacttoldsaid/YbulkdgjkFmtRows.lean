/-
  No cell of these rows narrows 'for every input' (looked for: loops, veiled, ifaces, maps, wideKeys, modest, calm, conditions, laid).
  DERIVED. THE GIVEN ROWS OF THIS SEAT. 3 by the template 'for every input the law returns true; each argument reads behind the call as it read before'; 0 by the template 'total and deterministic' (their statements: YbulkdgjkFmtTotals.lean).
  GIVEN WITH THE SEED: the statements are not yours to turn. If you find one false, say at which input.
  Laid BY PROGRAM, IN A SANDBOX (cutbox-rows.mjs): the forced cells as the released guide's own fill.sh prints them over the translation 50e399c6d133819b… (all of the seat's roots in one cut). By AI agents, Wed Nov 11 2026. No macro, syntax, notation, axiom, sorry.
-/
import Derived.Test.YbulkdgjkFmtChecked
import GoSem.Claim
import GoSem.ClaimJoined
import GoSem.ClaimMapViews
import Derived.JoinedTies
import Derived.KernelRfl
namespace Go.Proofs.YbulkdgjkFmt
/- THE CELL 'sum', in the pinned program and in every row, IS THE sha256 OF THE DUMP (.gsa) THAT YbulkdgjkFmtProg.lean LOADS. Nothing in Lean hashes anything: it is a label: what it is worth is what the hold of that sum in a sandbox is worth. -/
noncomputable def Ybaf.pinned : Pinned := { name := "ybulkdgjkfmt", sum := "50e399c6d133819b8037ea59b16033445771415084ce09edef4101f8f40f505b", checked := Ybaf.checked }
namespace Rows
def none {H : Type} : Left H := { results := [], args := [] }

/-- 'latchwork.LawS5379AExact': WHATEVER THE INPUT: true; the input reads as it did. -/
def lawS5379AExactSpec : ChangeSpec := { name := "lawS5379AExact", fn := fun _ => fun
  | [d1, d2, d3] => { results := [.lit (.bool true)], args := [d1, d2, d3] }
  | _ => none }
def lawS5379AExactRow : OpenClaim := { program := "ybulkdgjkfmt", sum := "50e399c6d133819b8037ea59b16033445771415084ce09edef4101f8f40f505b", func := "example.com/latchwork/latchwork.LawS5379AExact", spec := "lawS5379AExact", stops := ["fmt.Sprintf", "fmt.errorf"], inPlace := ["fmt.errorf", "sync/atomic.LoadInt32", "sync/atomic.CompareAndSwapInt32", "sync/atomic.AddInt32", "sync/atomic.AndInt32", "sync/atomic.CompareAndSwapUint64"], apart := false }
/-- NO THEOREM (fmt's text is open here; it may be false): for the released tool's asking of the row's closed facts alone. THE STATEMENT IS 'LawS5379AExactToldSaid' (YbulkdgjkFmtCards.lean). -/
def LawS5379AExactFormAsk : Prop := lawS5379AExactRow.holds Ybaf.pinned (OpenSpec.ofChange lawS5379AExactSpec)

/-- ITS FALSE NEIGHBOUR: 'it returns false'. Refute it at one input. -/
def lawS5379AExactWrong : ChangeSpec := { name := "lawS5379AExact", fn := fun _ => fun
  | [d1, d2, d3] => { results := [.lit (.bool false)], args := [d1, d2, d3] }
  | _ => none }
def LawS5379AExactWrongFormAsk : Prop := lawS5379AExactRow.holds Ybaf.pinned (OpenSpec.ofChange lawS5379AExactWrong)

/-- 'latchwork.LawS5379CFields': WHATEVER THE INPUT: true; the input reads as it did. -/
def lawS5379CFieldsSpec : ChangeSpec := { name := "lawS5379CFields", fn := fun _ => fun
  | [d] => { results := [.lit (.bool true)], args := [d] }
  | _ => none }
def lawS5379CFieldsRow : OpenClaim := { program := "ybulkdgjkfmt", sum := "50e399c6d133819b8037ea59b16033445771415084ce09edef4101f8f40f505b", func := "example.com/latchwork/latchwork.LawS5379CFields", spec := "lawS5379CFields", stops := ["fmt.Sprintf", "fmt.errorf"], inPlace := ["fmt.Sprintf", "math.Float64bits"], apart := false }
/-- NO THEOREM (fmt's text is open here; it may be false): for the released tool's asking of the row's closed facts alone. THE STATEMENT IS 'LawS5379CFieldsToldSaid' (YbulkdgjkFmtCards.lean). -/
def LawS5379CFieldsFormAsk : Prop := lawS5379CFieldsRow.holds Ybaf.pinned (OpenSpec.ofChange lawS5379CFieldsSpec)

/-- ITS FALSE NEIGHBOUR: 'it returns false'. Refute it at one input. -/
def lawS5379CFieldsWrong : ChangeSpec := { name := "lawS5379CFields", fn := fun _ => fun
  | [d] => { results := [.lit (.bool false)], args := [d] }
  | _ => none }
def LawS5379CFieldsWrongFormAsk : Prop := lawS5379CFieldsRow.holds Ybaf.pinned (OpenSpec.ofChange lawS5379CFieldsWrong)

/-- 'latchwork.LawS5379CIndexes': WHATEVER THE INPUT: true; the input reads as it did. -/
def lawS5379CIndexesSpec : ChangeSpec := { name := "lawS5379CIndexes", fn := fun _ => fun
  | [d] => { results := [.lit (.bool true)], args := [d] }
  | _ => none }
def lawS5379CIndexesRow : OpenClaim := { program := "ybulkdgjkfmt", sum := "50e399c6d133819b8037ea59b16033445771415084ce09edef4101f8f40f505b", func := "example.com/latchwork/latchwork.LawS5379CIndexes", spec := "lawS5379CIndexes", stops := ["fmt.Sprintf", "fmt.errorf"], inPlace := ["fmt.Sprintf"], apart := false }
/-- NO THEOREM (fmt's text is open here; it may be false): for the released tool's asking of the row's closed facts alone. THE STATEMENT IS 'LawS5379CIndexesToldSaid' (YbulkdgjkFmtCards.lean). -/
def LawS5379CIndexesFormAsk : Prop := lawS5379CIndexesRow.holds Ybaf.pinned (OpenSpec.ofChange lawS5379CIndexesSpec)

/-- ITS FALSE NEIGHBOUR: 'it returns false'. Refute it at one input. -/
def lawS5379CIndexesWrong : ChangeSpec := { name := "lawS5379CIndexes", fn := fun _ => fun
  | [d] => { results := [.lit (.bool false)], args := [d] }
  | _ => none }
def LawS5379CIndexesWrongFormAsk : Prop := lawS5379CIndexesRow.holds Ybaf.pinned (OpenSpec.ofChange lawS5379CIndexesWrong)

end Rows
end Go.Proofs.YbulkdgjkFmt
