/-
  No cell of these rows narrows 'for every input' (looked for: loops, veiled, ifaces, maps, wideKeys, modest, calm, conditions, laid).
  DERIVED. THE GIVEN ROWS OF THIS SEAT. 2 by the template 'for every input the law returns true; each argument reads behind the call as it read before'; 0 by the template 'total and deterministic' (their statements: YbulkbeqFmtTotals.lean).
  GIVEN WITH THE SEED: the statements are not yours to turn. If you find one false, say at which input.
  Laid BY PROGRAM, IN A SANDBOX (cutbox-rows.mjs): the forced cells as the released guide's own fill.sh prints them over the translation 7790807a28ee49c8… (all of the seat's roots in one cut). By AI agents, Wed Nov 11 2026. No macro, syntax, notation, axiom, sorry.
-/
import Derived.Test.YbulkbeqFmtChecked
import GoSem.Claim
import GoSem.ClaimJoined
import GoSem.ClaimMapViews
import Derived.JoinedTies
import Derived.KernelRfl
namespace Go.Proofs.YbulkbeqFmt
/- THE CELL 'sum', in the pinned program and in every row, IS THE sha256 OF THE DUMP (.gsa) THAT YbulkbeqFmtProg.lean LOADS. Nothing in Lean hashes anything: it is a label: what it is worth is what the hold of that sum in a sandbox is worth. -/
noncomputable def Ybaf.pinned : Pinned := { name := "ybulkbeqfmt", sum := "7790807a28ee49c8300d074023beedb5c740d7a5e1fdc8328a18017b5eb5d7b4", checked := Ybaf.checked }
namespace Rows
def none {H : Type} : Left H := { results := [], args := [] }

/-- 'location.LawS0107BCalls': WHATEVER THE INPUT: true; the input reads as it did. -/
def lawS0107BCallsSpec : ChangeSpec := { name := "lawS0107BCalls", fn := fun _ => fun
  | [d1, d2, d3, d4] => { results := [.lit (.bool true)], args := [d1, d2, d3, d4] }
  | _ => none }
def lawS0107BCallsRow : OpenClaim := { program := "ybulkbeqfmt", sum := "7790807a28ee49c8300d074023beedb5c740d7a5e1fdc8328a18017b5eb5d7b4", func := "example.com/lenity/lenity/internal/location.LawS0107BCalls", spec := "lawS0107BCalls", stops := ["fmt.Sprintln, its operands' methods called", "fmt.Sprintf"], inPlace := ["fmt.Fprintln", "fmt.Sprintln", "internal/reflectlite.TypeOf"], unfollowed := true, recurses := true, apart := false }
/-- NO THEOREM (fmt's text is open here; it may be false): for the released tool's asking of the row's closed facts alone. THE STATEMENT IS 'LawS0107BCallsToldSaid' (YbulkbeqFmtCards.lean). -/
def LawS0107BCallsFormAsk : Prop := lawS0107BCallsRow.holds Ybaf.pinned (OpenSpec.ofChange lawS0107BCallsSpec)

/-- ITS FALSE NEIGHBOUR: 'it returns false'. Refute it at one input. -/
def lawS0107BCallsWrong : ChangeSpec := { name := "lawS0107BCalls", fn := fun _ => fun
  | [d1, d2, d3, d4] => { results := [.lit (.bool false)], args := [d1, d2, d3, d4] }
  | _ => none }
def LawS0107BCallsWrongFormAsk : Prop := lawS0107BCallsRow.holds Ybaf.pinned (OpenSpec.ofChange lawS0107BCallsWrong)

/-- 'location.LawS0107BHist': WHATEVER THE INPUT: true; the input reads as it did. -/
def lawS0107BHistSpec : ChangeSpec := { name := "lawS0107BHist", fn := fun _ => fun
  | [d1, d2, d3, d4, d5] => { results := [.lit (.bool true)], args := [d1, d2, d3, d4, d5] }
  | _ => none }
def lawS0107BHistRow : OpenClaim := { program := "ybulkbeqfmt", sum := "7790807a28ee49c8300d074023beedb5c740d7a5e1fdc8328a18017b5eb5d7b4", func := "example.com/lenity/lenity/internal/location.LawS0107BHist", spec := "lawS0107BHist", stops := ["fmt.Sprintln, its operands' methods called", "fmt.Sprintf"], inPlace := ["fmt.Fprintln", "fmt.Sprintln", "internal/reflectlite.TypeOf"], unfollowed := true, recurses := true, apart := false }
/-- NO THEOREM (fmt's text is open here; it may be false): for the released tool's asking of the row's closed facts alone. THE STATEMENT IS 'LawS0107BHistToldSaid' (YbulkbeqFmtCards.lean). -/
def LawS0107BHistFormAsk : Prop := lawS0107BHistRow.holds Ybaf.pinned (OpenSpec.ofChange lawS0107BHistSpec)

/-- ITS FALSE NEIGHBOUR: 'it returns false'. Refute it at one input. -/
def lawS0107BHistWrong : ChangeSpec := { name := "lawS0107BHist", fn := fun _ => fun
  | [d1, d2, d3, d4, d5] => { results := [.lit (.bool false)], args := [d1, d2, d3, d4, d5] }
  | _ => none }
def LawS0107BHistWrongFormAsk : Prop := lawS0107BHistRow.holds Ybaf.pinned (OpenSpec.ofChange lawS0107BHistWrong)

end Rows
end Go.Proofs.YbulkbeqFmt
