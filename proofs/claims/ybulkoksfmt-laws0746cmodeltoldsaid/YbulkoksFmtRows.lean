/-
  No cell of these rows narrows 'for every input' (looked for: loops, veiled, ifaces, maps, wideKeys, modest, calm, conditions, laid).
  DERIVED. THE GIVEN ROWS OF THIS SEAT. 3 by the template 'for every input the law returns true; each argument reads behind the call as it read before'; 0 by the template 'total and deterministic' (their statements: YbulkoksFmtTotals.lean).
  GIVEN WITH THE SEED: the statements are not yours to turn. If you find one false, say at which input.
  Laid BY PROGRAM, IN A SANDBOX (cutbox-rows.mjs): the forced cells as the released guide's own fill.sh prints them over the translation ed67c6d35e4b2b15… (all of the seat's roots in one cut). By AI agents, Wed Nov 11 2026. No macro, syntax, notation, axiom, sorry.
-/
import Derived.Test.YbulkoksFmtChecked
import GoSem.Claim
import GoSem.ClaimJoined
import GoSem.ClaimMapViews
import Derived.JoinedTies
import Derived.KernelRfl
namespace Go.Proofs.YbulkoksFmt
/- THE CELL 'sum', in the pinned program and in every row, IS THE sha256 OF THE DUMP (.gsa) THAT YbulkoksFmtProg.lean LOADS. Nothing in Lean hashes anything: it is a label: what it is worth is what the hold of that sum in a sandbox is worth. -/
noncomputable def Ybaf.pinned : Pinned := { name := "ybulkoksfmt", sum := "ed67c6d35e4b2b157387ce0b501be314aaaa926180df608d57bd985403dfbf1a", checked := Ybaf.checked }
namespace Rows
def none {H : Type} : Left H := { results := [], args := [] }

/-- 'resettable.LawS0746BRaw': WHATEVER THE INPUT: true; the input reads as it did. -/
def lawS0746BRawSpec : ChangeSpec := { name := "lawS0746BRaw", fn := fun _ => fun
  | [d1, d2, d3, d4, d5, d6] => { results := [.lit (.bool true)], args := [d1, d2, d3, d4, d5, d6] }
  | _ => none }
def lawS0746BRawRow : OpenClaim := { program := "ybulkoksfmt", sum := "ed67c6d35e4b2b157387ce0b501be314aaaa926180df608d57bd985403dfbf1a", func := "example.com/antecede/antecede/resettable.LawS0746BRaw", spec := "lawS0746BRaw", stops := ["fmt.errorf"], inPlace := ["fmt.errorf"], apart := false }
/-- NO THEOREM (fmt's text is open here; it may be false): for the released tool's asking of the row's closed facts alone. THE STATEMENT IS 'LawS0746BRawToldSaid' (YbulkoksFmtCards.lean). -/
def LawS0746BRawFormAsk : Prop := lawS0746BRawRow.holds Ybaf.pinned (OpenSpec.ofChange lawS0746BRawSpec)

/-- ITS FALSE NEIGHBOUR: 'it returns false'. Refute it at one input. -/
def lawS0746BRawWrong : ChangeSpec := { name := "lawS0746BRaw", fn := fun _ => fun
  | [d1, d2, d3, d4, d5, d6] => { results := [.lit (.bool false)], args := [d1, d2, d3, d4, d5, d6] }
  | _ => none }
def LawS0746BRawWrongFormAsk : Prop := lawS0746BRawRow.holds Ybaf.pinned (OpenSpec.ofChange lawS0746BRawWrong)

/-- 'resettable.LawS0746BShaped': WHATEVER THE INPUT: true; the input reads as it did. -/
def lawS0746BShapedSpec : ChangeSpec := { name := "lawS0746BShaped", fn := fun _ => fun
  | [d1, d2, d3, d4, d5, d6] => { results := [.lit (.bool true)], args := [d1, d2, d3, d4, d5, d6] }
  | _ => none }
def lawS0746BShapedRow : OpenClaim := { program := "ybulkoksfmt", sum := "ed67c6d35e4b2b157387ce0b501be314aaaa926180df608d57bd985403dfbf1a", func := "example.com/antecede/antecede/resettable.LawS0746BShaped", spec := "lawS0746BShaped", stops := ["fmt.errorf"], inPlace := ["fmt.errorf"], apart := false }
/-- NO THEOREM (fmt's text is open here; it may be false): for the released tool's asking of the row's closed facts alone. THE STATEMENT IS 'LawS0746BShapedToldSaid' (YbulkoksFmtCards.lean). -/
def LawS0746BShapedFormAsk : Prop := lawS0746BShapedRow.holds Ybaf.pinned (OpenSpec.ofChange lawS0746BShapedSpec)

/-- ITS FALSE NEIGHBOUR: 'it returns false'. Refute it at one input. -/
def lawS0746BShapedWrong : ChangeSpec := { name := "lawS0746BShaped", fn := fun _ => fun
  | [d1, d2, d3, d4, d5, d6] => { results := [.lit (.bool false)], args := [d1, d2, d3, d4, d5, d6] }
  | _ => none }
def LawS0746BShapedWrongFormAsk : Prop := lawS0746BShapedRow.holds Ybaf.pinned (OpenSpec.ofChange lawS0746BShapedWrong)

/-- 'resettable.LawS0746CModel': WHATEVER THE INPUT: true; the input reads as it did. -/
def lawS0746CModelSpec : ChangeSpec := { name := "lawS0746CModel", fn := fun _ => fun
  | [d1, d2, d3, d4, d5, d6, d7, d8, d9, d10, d11, d12] => { results := [.lit (.bool true)], args := [d1, d2, d3, d4, d5, d6, d7, d8, d9, d10, d11, d12] }
  | _ => none }
def lawS0746CModelRow : OpenClaim := { program := "ybulkoksfmt", sum := "ed67c6d35e4b2b157387ce0b501be314aaaa926180df608d57bd985403dfbf1a", func := "example.com/antecede/antecede/resettable.LawS0746CModel", spec := "lawS0746CModel", stops := ["fmt.errorf"], inPlace := ["fmt.errorf"], apart := false }
/-- NO THEOREM (fmt's text is open here; it may be false): for the released tool's asking of the row's closed facts alone. THE STATEMENT IS 'LawS0746CModelToldSaid' (YbulkoksFmtCards.lean). -/
def LawS0746CModelFormAsk : Prop := lawS0746CModelRow.holds Ybaf.pinned (OpenSpec.ofChange lawS0746CModelSpec)

/-- ITS FALSE NEIGHBOUR: 'it returns false'. Refute it at one input. -/
def lawS0746CModelWrong : ChangeSpec := { name := "lawS0746CModel", fn := fun _ => fun
  | [d1, d2, d3, d4, d5, d6, d7, d8, d9, d10, d11, d12] => { results := [.lit (.bool false)], args := [d1, d2, d3, d4, d5, d6, d7, d8, d9, d10, d11, d12] }
  | _ => none }
def LawS0746CModelWrongFormAsk : Prop := lawS0746CModelRow.holds Ybaf.pinned (OpenSpec.ofChange lawS0746CModelWrong)

end Rows
end Go.Proofs.YbulkoksFmt
