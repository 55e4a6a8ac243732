/-
  No cell of these rows narrows 'for every input' (looked for: loops, veiled, ifaces, maps, wideKeys, modest, calm, conditions, laid).
  DERIVED. THE GIVEN ROWS OF THIS SEAT. 4 by the template 'for every input the law returns true; each argument reads behind the call as it read before'; 0 by the template 'total and deterministic' (their statements: YbulkbfsTotals.lean).
  GIVEN WITH THE SEED: the statements are not yours to turn. If you find one false, say at which input.
  Laid BY PROGRAM, IN A SANDBOX (cutbox-rows.mjs): the forced cells as the released guide's own fill.sh prints them over the translation bd6f81796b8c17fc… (all of the seat's roots in one cut). By AI agents, Wed Nov 11 2026. No macro, syntax, notation, axiom, sorry.
-/
import Derived.Test.YbulkbfsChecked
import GoSem.Claim
import GoSem.ClaimJoined
import GoSem.ClaimMapViews
import Derived.JoinedTies
import Derived.KernelRfl
namespace Go.Proofs.Ybulkbfs
/- THE CELL 'sum', in the pinned program and in every row, IS THE sha256 OF THE DUMP (.gsa) THAT YbulkbfsProg.lean LOADS. Nothing in Lean hashes anything: it is a label: what it is worth is what the hold of that sum in a sandbox is worth. -/
noncomputable def Yba.pinned : Pinned := { name := "ybulkbfs", sum := "bd6f81796b8c17fcbc2ca6fe1a88f3648086f4dec077f1ced7154fbebc6fb6e9", checked := Yba.checked }
namespace Rows
def none {H : Type} : Left H := { results := [], args := [] }

/-- 'elapsed-clock.LawS0109BMonoLayout': WHATEVER THE INPUT: true; the input reads as it did. -/
def lawS0109BMonoLayoutSpec : ChangeSpec := { name := "lawS0109BMonoLayout", fn := fun _ => fun
  | [d1, d2, d3, d4, d5, d6] => { results := [.lit (.bool true)], args := [d1, d2, d3, d4, d5, d6] }
  | _ => none }
def lawS0109BMonoLayoutRow : OpenClaim := { program := "ybulkbfs", sum := "bd6f81796b8c17fcbc2ca6fe1a88f3648086f4dec077f1ced7154fbebc6fb6e9", func := "example.com/elapsed-clock/elapsed-clock.LawS0109BMonoLayout", spec := "lawS0109BMonoLayout", apart := false }
def LawS0109BMonoLayoutSaid : Prop := lawS0109BMonoLayoutRow.holds Yba.pinned (OpenSpec.ofChange lawS0109BMonoLayoutSpec)

/-- ITS FALSE NEIGHBOUR: 'it returns false'. Refute it at one input. -/
def lawS0109BMonoLayoutWrong : ChangeSpec := { name := "lawS0109BMonoLayout", fn := fun _ => fun
  | [d1, d2, d3, d4, d5, d6] => { results := [.lit (.bool false)], args := [d1, d2, d3, d4, d5, d6] }
  | _ => none }
def LawS0109BMonoLayoutWrongFalsely : Prop := lawS0109BMonoLayoutRow.holds Yba.pinned (OpenSpec.ofChange lawS0109BMonoLayoutWrong)

/-- 'elapsed-clock.LawS0109BNoMonoRaw': WHATEVER THE INPUT: true; the input reads as it did. -/
def lawS0109BNoMonoRawSpec : ChangeSpec := { name := "lawS0109BNoMonoRaw", fn := fun _ => fun
  | [d1, d2, d3, d4] => { results := [.lit (.bool true)], args := [d1, d2, d3, d4] }
  | _ => none }
def lawS0109BNoMonoRawRow : OpenClaim := { program := "ybulkbfs", sum := "bd6f81796b8c17fcbc2ca6fe1a88f3648086f4dec077f1ced7154fbebc6fb6e9", func := "example.com/elapsed-clock/elapsed-clock.LawS0109BNoMonoRaw", spec := "lawS0109BNoMonoRaw", apart := false }
def LawS0109BNoMonoRawSaid : Prop := lawS0109BNoMonoRawRow.holds Yba.pinned (OpenSpec.ofChange lawS0109BNoMonoRawSpec)

/-- ITS FALSE NEIGHBOUR: 'it returns false'. Refute it at one input. -/
def lawS0109BNoMonoRawWrong : ChangeSpec := { name := "lawS0109BNoMonoRaw", fn := fun _ => fun
  | [d1, d2, d3, d4] => { results := [.lit (.bool false)], args := [d1, d2, d3, d4] }
  | _ => none }
def LawS0109BNoMonoRawWrongFalsely : Prop := lawS0109BNoMonoRawRow.holds Yba.pinned (OpenSpec.ofChange lawS0109BNoMonoRawWrong)

/-- 'elapsed-clock.LawS0109CDisarm': WHATEVER THE INPUT: true; the input reads as it did. -/
def lawS0109CDisarmSpec : ChangeSpec := { name := "lawS0109CDisarm", fn := fun _ => fun
  | [d1, d2, d3, d4] => { results := [.lit (.bool true)], args := [d1, d2, d3, d4] }
  | _ => none }
def lawS0109CDisarmRow : OpenClaim := { program := "ybulkbfs", sum := "bd6f81796b8c17fcbc2ca6fe1a88f3648086f4dec077f1ced7154fbebc6fb6e9", func := "example.com/elapsed-clock/elapsed-clock.LawS0109CDisarm", spec := "lawS0109CDisarm", inPlace := ["time.stopTimer"], unfollowed := true, recurses := true, apart := false }
def LawS0109CDisarmSaid : Prop := lawS0109CDisarmRow.holds Yba.pinned (OpenSpec.ofChange lawS0109CDisarmSpec)

/-- ITS FALSE NEIGHBOUR: 'it returns false'. Refute it at one input. -/
def lawS0109CDisarmWrong : ChangeSpec := { name := "lawS0109CDisarm", fn := fun _ => fun
  | [d1, d2, d3, d4] => { results := [.lit (.bool false)], args := [d1, d2, d3, d4] }
  | _ => none }
def LawS0109CDisarmWrongFalsely : Prop := lawS0109CDisarmRow.holds Yba.pinned (OpenSpec.ofChange lawS0109CDisarmWrong)

/-- 'elapsed-clock.LawS0109CTwice': WHATEVER THE INPUT: true; the input reads as it did. -/
def lawS0109CTwiceSpec : ChangeSpec := { name := "lawS0109CTwice", fn := fun _ => fun
  | [d1, d2] => { results := [.lit (.bool true)], args := [d1, d2] }
  | _ => none }
def lawS0109CTwiceRow : OpenClaim := { program := "ybulkbfs", sum := "bd6f81796b8c17fcbc2ca6fe1a88f3648086f4dec077f1ced7154fbebc6fb6e9", func := "example.com/elapsed-clock/elapsed-clock.LawS0109CTwice", spec := "lawS0109CTwice", inPlace := ["time.stopTimer"], unfollowed := true, recurses := true, apart := false }
def LawS0109CTwiceSaid : Prop := lawS0109CTwiceRow.holds Yba.pinned (OpenSpec.ofChange lawS0109CTwiceSpec)

/-- ITS FALSE NEIGHBOUR: 'it returns false'. Refute it at one input. -/
def lawS0109CTwiceWrong : ChangeSpec := { name := "lawS0109CTwice", fn := fun _ => fun
  | [d1, d2] => { results := [.lit (.bool false)], args := [d1, d2] }
  | _ => none }
def LawS0109CTwiceWrongFalsely : Prop := lawS0109CTwiceRow.holds Yba.pinned (OpenSpec.ofChange lawS0109CTwiceWrong)

end Rows
end Go.Proofs.Ybulkbfs
