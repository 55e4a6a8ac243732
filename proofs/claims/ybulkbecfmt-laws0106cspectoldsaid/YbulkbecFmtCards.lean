/-
  DERIVED. GIVEN WITH THE SEED: THE CARDS: each row of YbulkbecFmtRows.lean that lists a variable, with what it lists TIED to the program's text (the seventh form; the later family's looks); each row that meets fmt, with fmt's text TOLD by the authors' own Lean function (tested against real Go, not proved from fmt's source: count such statements apart). THE CARD IS WHAT COUNTS. Prove the row's statement (the work); the ties are given (YbulkbecFmtTie.lean); close each card by the builder's one call (the guide's Derived/Test/ToyasCard.lean, 'card_holds'). Laid BY PROGRAM, IN A SANDBOX (cutbox-door.mjs). By AI agents, Wed Nov 11 2026. No macro, syntax, notation, axiom, sorry.
-/
import Derived.Test.YbulkbecFmtRows
import GoSem.ClaimSeven
namespace Go.Proofs.YbulkbecFmt
namespace Rows

/-- THE TOLD CARD OF 'workload.LawS0106AExact'. -/
def lawS0106AExactCard : Claim7 := { stood := { row := lawS0106AExactRow, standIns := [], harness := (true, "d3eb1ddeee66917191a260fb96e376610b5dba4d9603918f9e839b7d69367b4a"), looks := false }, told := true, goes := false }
def LawS0106AExactToldSaid : Prop := Claim7.holds Ybaf.pinned (.plain (OpenSpec.ofChange lawS0106AExactSpec)) lawS0106AExactCard
/-- ITS FALSE NEIGHBOUR. Refute it at one input. -/
def LawS0106AExactToldWrongFalsely : Prop := Claim7.holds Ybaf.pinned (.plain (OpenSpec.ofChange lawS0106AExactWrong)) lawS0106AExactCard

/-- THE TOLD CARD OF 'workload.LawS0106AEdge'. -/
def lawS0106AEdgeCard : Claim7 := { stood := { row := lawS0106AEdgeRow, standIns := [], harness := (true, "d3eb1ddeee66917191a260fb96e376610b5dba4d9603918f9e839b7d69367b4a"), looks := false }, told := true, goes := false }
def LawS0106AEdgeToldSaid : Prop := Claim7.holds Ybaf.pinned (.plain (OpenSpec.ofChange lawS0106AEdgeSpec)) lawS0106AEdgeCard
/-- ITS FALSE NEIGHBOUR. Refute it at one input. -/
def LawS0106AEdgeToldWrongFalsely : Prop := Claim7.holds Ybaf.pinned (.plain (OpenSpec.ofChange lawS0106AEdgeWrong)) lawS0106AEdgeCard

/-- THE TOLD AND TIED CARD OF 'workload.LawS0106CSpec'. -/
def lawS0106CSpecCard : Claim7 := { stood := { row := lawS0106CSpecRow, standIns := [], harness := (true, "d3eb1ddeee66917191a260fb96e376610b5dba4d9603918f9e839b7d69367b4a"), looks := false }, told := true, laidByText := true, laidKinds := [.widerDeep], laidTests := true, laidLooks := .later, goes := false }
def LawS0106CSpecToldSaid : Prop := Claim7.holds Ybaf.pinned (.plain (OpenSpec.ofChange lawS0106CSpecSpec)) lawS0106CSpecCard
/-- ITS FALSE NEIGHBOUR. Refute it at one input. -/
def LawS0106CSpecToldWrongFalsely : Prop := Claim7.holds Ybaf.pinned (.plain (OpenSpec.ofChange lawS0106CSpecWrong)) lawS0106CSpecCard
end Rows
end Go.Proofs.YbulkbecFmt
