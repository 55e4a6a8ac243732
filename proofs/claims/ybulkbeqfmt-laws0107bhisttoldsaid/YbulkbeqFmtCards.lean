/-
  DERIVED. GIVEN WITH THE SEED: THE CARDS: each row of YbulkbeqFmtRows.lean that lists a variable, with what it lists TIED to the program's text (the seventh form; the later family's looks); each row that meets fmt, with fmt's text TOLD by the authors' own Lean function (tested against real Go, not proved from fmt's source: count such statements apart). THE CARD IS WHAT COUNTS. Prove the row's statement (the work); the ties are given (YbulkbeqFmtTie.lean); close each card by the builder's one call (the guide's Derived/Test/ToyasCard.lean, 'card_holds'). Laid BY PROGRAM, IN A SANDBOX (cutbox-door.mjs). By AI agents, Wed Nov 11 2026. No macro, syntax, notation, axiom, sorry.
-/
import Derived.Test.YbulkbeqFmtRows
import GoSem.ClaimSeven
namespace Go.Proofs.YbulkbeqFmt
namespace Rows

/-- THE TOLD CARD OF 'location.LawS0107BCalls'. -/
def lawS0107BCallsCard : Claim7 := { stood := { row := lawS0107BCallsRow, standIns := [], harness := (true, "9f2d8c9d0ff0a36b1c84fdeafab960b6bfb99a0108c5eb127ede5de921066970"), looks := true }, told := true, goes := false }
def LawS0107BCallsToldSaid : Prop := Claim7.holds Ybaf.pinned (.plain (OpenSpec.ofChange lawS0107BCallsSpec)) lawS0107BCallsCard
/-- ITS FALSE NEIGHBOUR. Refute it at one input. -/
def LawS0107BCallsToldWrongFalsely : Prop := Claim7.holds Ybaf.pinned (.plain (OpenSpec.ofChange lawS0107BCallsWrong)) lawS0107BCallsCard

/-- THE TOLD CARD OF 'location.LawS0107BHist'. -/
def lawS0107BHistCard : Claim7 := { stood := { row := lawS0107BHistRow, standIns := [], harness := (true, "9f2d8c9d0ff0a36b1c84fdeafab960b6bfb99a0108c5eb127ede5de921066970"), looks := true }, told := true, goes := false }
def LawS0107BHistToldSaid : Prop := Claim7.holds Ybaf.pinned (.plain (OpenSpec.ofChange lawS0107BHistSpec)) lawS0107BHistCard
/-- ITS FALSE NEIGHBOUR. Refute it at one input. -/
def LawS0107BHistToldWrongFalsely : Prop := Claim7.holds Ybaf.pinned (.plain (OpenSpec.ofChange lawS0107BHistWrong)) lawS0107BHistCard
end Rows
end Go.Proofs.YbulkbeqFmt
