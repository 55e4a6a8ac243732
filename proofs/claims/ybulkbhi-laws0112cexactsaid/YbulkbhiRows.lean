/-
  No cell of these rows narrows 'for every input' (looked for: loops, veiled, ifaces, maps, wideKeys, modest, calm, conditions, laid).
  DERIVED. THE GIVEN ROWS OF THIS SEAT. 1 by the template 'for every input the law returns true; each argument reads behind the call as it read before'; 0 by the template 'total and deterministic' (their statements: YbulkbhiTotals.lean).
  GIVEN WITH THE SEED: the statements are not yours to turn. If you find one false, say at which input.
  Laid BY PROGRAM, IN A SANDBOX (cutbox-rows.mjs): the forced cells as the released guide's own fill.sh prints them over the translation dd75dec870b7e78a… (all of the seat's roots in one cut). By AI agents, Wed Nov 11 2026. No macro, syntax, notation, axiom, sorry.
-/
import Derived.Test.YbulkbhiChecked
import GoSem.Claim
import GoSem.ClaimJoined
import GoSem.ClaimMapViews
import Derived.JoinedTies
import Derived.KernelRfl
namespace Go.Proofs.Ybulkbhi
/- THE CELL 'sum', in the pinned program and in every row, IS THE sha256 OF THE DUMP (.gsa) THAT YbulkbhiProg.lean LOADS. Nothing in Lean hashes anything: it is a label: what it is worth is what the hold of that sum in a sandbox is worth. -/
noncomputable def Yba.pinned : Pinned := { name := "ybulkbhi", sum := "dd75dec870b7e78a1d1bdcd5abaf2704167668b84aaec1d6d2dcbf5d66eac2e4", checked := Yba.checked }
namespace Rows
def none {H : Type} : Left H := { results := [], args := [] }

/-- 'rinex.LawS0112CExact': WHATEVER THE INPUT: true; the input reads as it did. -/
def lawS0112CExactSpec : ChangeSpec := { name := "lawS0112CExact", fn := fun _ => fun
  | [d1, d2, d3, d4] => { results := [.lit (.bool true)], args := [d1, d2, d3, d4] }
  | _ => none }
def lawS0112CExactRow : OpenClaim := { program := "ybulkbhi", sum := "dd75dec870b7e78a1d1bdcd5abaf2704167668b84aaec1d6d2dcbf5d66eac2e4", func := "example.com/epochwise/epochwise/rinex.LawS0112CExact", spec := "lawS0112CExact", apart := false }
def LawS0112CExactSaid : Prop := lawS0112CExactRow.holds Yba.pinned (OpenSpec.ofChange lawS0112CExactSpec)

/-- ITS FALSE NEIGHBOUR: 'it returns false'. Refute it at one input. -/
def lawS0112CExactWrong : ChangeSpec := { name := "lawS0112CExact", fn := fun _ => fun
  | [d1, d2, d3, d4] => { results := [.lit (.bool false)], args := [d1, d2, d3, d4] }
  | _ => none }
def LawS0112CExactWrongFalsely : Prop := lawS0112CExactRow.holds Yba.pinned (OpenSpec.ofChange lawS0112CExactWrong)

end Rows
end Go.Proofs.Ybulkbhi
