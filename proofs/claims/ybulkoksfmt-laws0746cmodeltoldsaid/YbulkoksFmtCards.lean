/-
  DERIVED. GIVEN WITH THE SEED: THE CARDS: each row of YbulkoksFmtRows.lean that lists a variable, with what it lists TIED to the program's text (the seventh form; the later family's looks); each row that meets fmt, with fmt's text TOLD by the authors' own Lean function (tested against real Go, not proved from fmt's source: count such statements apart). THE CARD IS WHAT COUNTS. Prove the row's statement (the work); the ties are given (YbulkoksFmtTie.lean); close each card by the builder's one call (the guide's Derived/Test/ToyasCard.lean, 'card_holds'). Laid BY PROGRAM, IN A SANDBOX (cutbox-door.mjs). By AI agents, Wed Nov 11 2026. No macro, syntax, notation, axiom, sorry.
-/
import Derived.Test.YbulkoksFmtRows
import GoSem.ClaimSeven
namespace Go.Proofs.YbulkoksFmt
namespace Rows

/-- THE TOLD CARD OF 'resettable.LawS0746BRaw'. -/
def lawS0746BRawCard : Claim7 := { stood := { row := lawS0746BRawRow, standIns := [], harness := (true, "ebe949a9290dd1cfe36187c1a4bf1eed5dc26070884997f6b13d101bec77de2a"), looks := false }, told := true, goes := false }
def LawS0746BRawToldSaid : Prop := Claim7.holds Ybaf.pinned (.plain (OpenSpec.ofChange lawS0746BRawSpec)) lawS0746BRawCard
/-- ITS FALSE NEIGHBOUR. Refute it at one input. -/
def LawS0746BRawToldWrongFalsely : Prop := Claim7.holds Ybaf.pinned (.plain (OpenSpec.ofChange lawS0746BRawWrong)) lawS0746BRawCard

/-- THE TOLD CARD OF 'resettable.LawS0746BShaped'. -/
def lawS0746BShapedCard : Claim7 := { stood := { row := lawS0746BShapedRow, standIns := [], harness := (true, "ebe949a9290dd1cfe36187c1a4bf1eed5dc26070884997f6b13d101bec77de2a"), looks := false }, told := true, goes := false }
def LawS0746BShapedToldSaid : Prop := Claim7.holds Ybaf.pinned (.plain (OpenSpec.ofChange lawS0746BShapedSpec)) lawS0746BShapedCard
/-- ITS FALSE NEIGHBOUR. Refute it at one input. -/
def LawS0746BShapedToldWrongFalsely : Prop := Claim7.holds Ybaf.pinned (.plain (OpenSpec.ofChange lawS0746BShapedWrong)) lawS0746BShapedCard

/-- THE TOLD CARD OF 'resettable.LawS0746CModel'. -/
def lawS0746CModelCard : Claim7 := { stood := { row := lawS0746CModelRow, standIns := [], harness := (true, "ebe949a9290dd1cfe36187c1a4bf1eed5dc26070884997f6b13d101bec77de2a"), looks := false }, told := true, goes := false }
def LawS0746CModelToldSaid : Prop := Claim7.holds Ybaf.pinned (.plain (OpenSpec.ofChange lawS0746CModelSpec)) lawS0746CModelCard
/-- ITS FALSE NEIGHBOUR. Refute it at one input. -/
def LawS0746CModelToldWrongFalsely : Prop := Claim7.holds Ybaf.pinned (.plain (OpenSpec.ofChange lawS0746CModelWrong)) lawS0746CModelCard
end Rows
end Go.Proofs.YbulkoksFmt
