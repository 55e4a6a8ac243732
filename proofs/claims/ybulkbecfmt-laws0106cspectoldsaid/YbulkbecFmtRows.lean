/-
  NARROWER THAN 'FOR EVERY INPUT', by the rows' own cells (each row's printed sentence says how): LawS0106CSpec: laid.
  DERIVED. THE GIVEN ROWS OF THIS SEAT. 3 by the template 'for every input the law returns true; each argument reads behind the call as it read before'; 0 by the template 'total and deterministic' (their statements: YbulkbecFmtTotals.lean).
  GIVEN WITH THE SEED: the statements are not yours to turn. If you find one false, say at which input.
  Laid BY PROGRAM, IN A SANDBOX (cutbox-rows.mjs): the forced cells as the released guide's own fill.sh prints them over the translation 3e7eeae9f523d7de… (all of the seat's roots in one cut). By AI agents, Wed Nov 11 2026. No macro, syntax, notation, axiom, sorry.
-/
import Derived.Test.YbulkbecFmtChecked
import GoSem.Claim
import GoSem.ClaimJoined
import GoSem.ClaimMapViews
import Derived.JoinedTies
import Derived.KernelRfl
namespace Go.Proofs.YbulkbecFmt
/- THE CELL 'sum', in the pinned program and in every row, IS THE sha256 OF THE DUMP (.gsa) THAT YbulkbecFmtProg.lean LOADS. Nothing in Lean hashes anything: it is a label: what it is worth is what the hold of that sum in a sandbox is worth. -/
noncomputable def Ybaf.pinned : Pinned := { name := "ybulkbecfmt", sum := "3e7eeae9f523d7ded29e9f131ec98e9c8c0f9dfc65778047447149806e1ef3c3", checked := Ybaf.checked }
namespace Rows
def none {H : Type} : Left H := { results := [], args := [] }

/- WHAT THE LISTED PACKAGE-LEVEL VARIABLES READ AS WHEN THE CALL BEGINS. Each datum BY PROGRAM (the guide's laid-datum.mjs) off the statement by which the dump's own 'gosem.cut.vars' lays the variable. In a bare row this is a premise. The card (YbulkbecFmtCards.lean) ties it to the program's text. -/
def laid_example_com_lockline_lockline_internal_workload_hintModes {H : Type} : DataW H := .agg [.lit (.string [110, 111, 110, 101]), .lit (.string [101, 120, 97, 99, 116]), .lit (.string [104, 111, 116, 58, 72]), .lit (.string [119, 114, 111, 110, 103])]

/-- 'workload.LawS0106AExact': WHATEVER THE INPUT: true; the input reads as it did. -/
def lawS0106AExactSpec : ChangeSpec := { name := "lawS0106AExact", fn := fun _ => fun
  | [d1, d2] => { results := [.lit (.bool true)], args := [d1, d2] }
  | _ => none }
def lawS0106AExactRow : OpenClaim := { program := "ybulkbecfmt", sum := "3e7eeae9f523d7ded29e9f131ec98e9c8c0f9dfc65778047447149806e1ef3c3", func := "example.com/lockline/lockline/internal/workload.LawS0106AExact", spec := "lawS0106AExact", stops := ["fmt.errorf", "fmt.Sprintf"], inPlace := ["fmt.errorf"], apart := false }
/-- NO THEOREM (fmt's text is open here; it may be false): for the released tool's asking of the row's closed facts alone. THE STATEMENT IS 'LawS0106AExactToldSaid' (YbulkbecFmtCards.lean). -/
def LawS0106AExactFormAsk : Prop := lawS0106AExactRow.holds Ybaf.pinned (OpenSpec.ofChange lawS0106AExactSpec)

/-- ITS FALSE NEIGHBOUR: 'it returns false'. Refute it at one input. -/
def lawS0106AExactWrong : ChangeSpec := { name := "lawS0106AExact", fn := fun _ => fun
  | [d1, d2] => { results := [.lit (.bool false)], args := [d1, d2] }
  | _ => none }
def LawS0106AExactWrongFormAsk : Prop := lawS0106AExactRow.holds Ybaf.pinned (OpenSpec.ofChange lawS0106AExactWrong)

/-- 'workload.LawS0106AEdge': WHATEVER THE INPUT: true; the input reads as it did. -/
def lawS0106AEdgeSpec : ChangeSpec := { name := "lawS0106AEdge", fn := fun _ => fun
  | [d] => { results := [.lit (.bool true)], args := [d] }
  | _ => none }
def lawS0106AEdgeRow : OpenClaim := { program := "ybulkbecfmt", sum := "3e7eeae9f523d7ded29e9f131ec98e9c8c0f9dfc65778047447149806e1ef3c3", func := "example.com/lockline/lockline/internal/workload.LawS0106AEdge", spec := "lawS0106AEdge", stops := ["fmt.errorf", "fmt.Sprintf"], inPlace := ["fmt.errorf"], apart := false }
/-- NO THEOREM (fmt's text is open here; it may be false): for the released tool's asking of the row's closed facts alone. THE STATEMENT IS 'LawS0106AEdgeToldSaid' (YbulkbecFmtCards.lean). -/
def LawS0106AEdgeFormAsk : Prop := lawS0106AEdgeRow.holds Ybaf.pinned (OpenSpec.ofChange lawS0106AEdgeSpec)

/-- ITS FALSE NEIGHBOUR: 'it returns false'. Refute it at one input. -/
def lawS0106AEdgeWrong : ChangeSpec := { name := "lawS0106AEdge", fn := fun _ => fun
  | [d] => { results := [.lit (.bool false)], args := [d] }
  | _ => none }
def LawS0106AEdgeWrongFormAsk : Prop := lawS0106AEdgeRow.holds Ybaf.pinned (OpenSpec.ofChange lawS0106AEdgeWrong)

/-- 'workload.LawS0106CSpec': WHATEVER THE INPUT: true; the input reads as it did. -/
def lawS0106CSpecSpec : ChangeSpec := { name := "lawS0106CSpec", vars := ["example.com/lockline/lockline/internal/workload.hintModes"], fn := fun _ => fun
  | [d1, d2, d3, g1] => { results := [.lit (.bool true)], args := [d1, d2, d3], vars := [g1] }
  | _ => none }
def lawS0106CSpecRow : OpenClaim := { program := "ybulkbecfmt", sum := "3e7eeae9f523d7ded29e9f131ec98e9c8c0f9dfc65778047447149806e1ef3c3", func := "example.com/lockline/lockline/internal/workload.LawS0106CSpec", spec := "lawS0106CSpec", stops := ["fmt.errorf", "fmt.Sprintf"], inPlace := ["fmt.errorf", "fmt.Appendf", "fmt.Sprintf"], named := ["example.com/lockline/lockline/internal/workload.hintModes"], apart := false, laid := [("example.com/lockline/lockline/internal/workload.hintModes", laid_example_com_lockline_lockline_internal_workload_hintModes)] }
/-- NO THEOREM (fmt's text is open here; it may be false): for the released tool's asking of the row's closed facts alone. THE STATEMENT IS 'LawS0106CSpecToldSaid' (YbulkbecFmtCards.lean). -/
def LawS0106CSpecFormAsk : Prop := lawS0106CSpecRow.holds Ybaf.pinned (OpenSpec.ofChange lawS0106CSpecSpec)

/-- ITS FALSE NEIGHBOUR: 'it returns false'. Refute it at one input. -/
def lawS0106CSpecWrong : ChangeSpec := { name := "lawS0106CSpec", vars := ["example.com/lockline/lockline/internal/workload.hintModes"], fn := fun _ => fun
  | [d1, d2, d3, g1] => { results := [.lit (.bool false)], args := [d1, d2, d3], vars := [g1] }
  | _ => none }
def LawS0106CSpecWrongFormAsk : Prop := lawS0106CSpecRow.holds Ybaf.pinned (OpenSpec.ofChange lawS0106CSpecWrong)

end Rows
end Go.Proofs.YbulkbecFmt
