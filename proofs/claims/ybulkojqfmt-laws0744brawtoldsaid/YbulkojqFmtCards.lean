/-
  DERIVED. GIVEN WITH THE SEED: THE CARDS: each row of YbulkojqFmtRows.lean that lists a variable, with what it lists TIED to the program's text (the seventh form; the later family's looks); each row that meets fmt, with fmt's text TOLD by the authors' own Lean function (tested against real Go, not proved from fmt's source: count such statements apart). THE CARD IS WHAT COUNTS. Prove the row's statement (the work); the ties are given (YbulkojqFmtTie.lean); close each card by the builder's one call (the guide's Derived/Test/ToyasCard.lean, 'card_holds'). Laid BY PROGRAM, IN A SANDBOX (cutbox-door.mjs). By AI agents, Wed Nov 11 2026. No macro, syntax, notation, axiom, sorry.
-/
import Derived.Test.YbulkojqFmtRows
import GoSem.ClaimSeven
namespace Go.Proofs.YbulkojqFmt
namespace Rows

/-- THE TOLD CARD OF 'joinkit.LawS0744BRoundTrip'. -/
def lawS0744BRoundTripCard : Claim7 := { stood := { row := lawS0744BRoundTripRow, standIns := [], harness := (true, "120bcad84723fb8d8c9007c610b62ebb77018bd22121059ec7b4a04336702cb5"), looks := true }, told := true, goes := false }
def LawS0744BRoundTripToldSaid : Prop := Claim7.holds Ybaf.pinned (.plain (OpenSpec.ofChange lawS0744BRoundTripSpec)) lawS0744BRoundTripCard
/-- ITS FALSE NEIGHBOUR. Refute it at one input. -/
def LawS0744BRoundTripToldWrongFalsely : Prop := Claim7.holds Ybaf.pinned (.plain (OpenSpec.ofChange lawS0744BRoundTripWrong)) lawS0744BRoundTripCard

/-- THE TOLD CARD OF 'joinkit.LawS0744BRaw'. -/
def lawS0744BRawCard : Claim7 := { stood := { row := lawS0744BRawRow, standIns := [], harness := (true, "120bcad84723fb8d8c9007c610b62ebb77018bd22121059ec7b4a04336702cb5"), looks := true }, told := true, goes := false }
def LawS0744BRawToldSaid : Prop := Claim7.holds Ybaf.pinned (.plain (OpenSpec.ofChange lawS0744BRawSpec)) lawS0744BRawCard
/-- ITS FALSE NEIGHBOUR. Refute it at one input. -/
def LawS0744BRawToldWrongFalsely : Prop := Claim7.holds Ybaf.pinned (.plain (OpenSpec.ofChange lawS0744BRawWrong)) lawS0744BRawCard
end Rows
end Go.Proofs.YbulkojqFmt
