/-
  No cell of these rows narrows 'for every input' (looked for: loops, veiled, ifaces, maps, wideKeys, modest, calm, conditions, laid).
  DERIVED. THE GIVEN ROWS OF THIS SEAT. 2 by the template 'for every input the law returns true; each argument reads behind the call as it read before'; 0 by the template 'total and deterministic' (their statements: YbulkojqFmtTotals.lean).
  GIVEN WITH THE SEED: the statements are not yours to turn. If you find one false, say at which input.
  Laid BY PROGRAM, IN A SANDBOX (cutbox-rows.mjs): the forced cells as the released guide's own fill.sh prints them over the translation 2441b83617208ca2… (all of the seat's roots in one cut). By AI agents, Wed Nov 11 2026. No macro, syntax, notation, axiom, sorry.
-/
import Derived.Test.YbulkojqFmtChecked
import GoSem.Claim
import GoSem.ClaimJoined
import GoSem.ClaimMapViews
import Derived.JoinedTies
import Derived.KernelRfl
namespace Go.Proofs.YbulkojqFmt
/- THE CELL 'sum', in the pinned program and in every row, IS THE sha256 OF THE DUMP (.gsa) THAT YbulkojqFmtProg.lean LOADS. Nothing in Lean hashes anything: it is a label: what it is worth is what the hold of that sum in a sandbox is worth. -/
noncomputable def Ybaf.pinned : Pinned := { name := "ybulkojqfmt", sum := "2441b83617208ca25b7f1e00c0b335a56f4df2f1ab6a1912c186f7e4c35357c0", checked := Ybaf.checked }
namespace Rows
def none {H : Type} : Left H := { results := [], args := [] }

/-- 'joinkit.LawS0744BRoundTrip': WHATEVER THE INPUT: true; the input reads as it did. -/
def lawS0744BRoundTripSpec : ChangeSpec := { name := "lawS0744BRoundTrip", fn := fun _ => fun
  | [d1, d2, d3, d4] => { results := [.lit (.bool true)], args := [d1, d2, d3, d4] }
  | _ => none }
def lawS0744BRoundTripRow : OpenClaim := { program := "ybulkojqfmt", sum := "2441b83617208ca25b7f1e00c0b335a56f4df2f1ab6a1912c186f7e4c35357c0", func := "example.com/joinkit/joinkit.LawS0744BRoundTrip", spec := "lawS0744BRoundTrip", stops := ["fmt.Sprintf, its operands' methods called"], inPlace := ["fmt.Sprintf"], unfollowed := true, recurses := true, apart := false }
/-- NO THEOREM (fmt's text is open here; it may be false): for the released tool's asking of the row's closed facts alone. THE STATEMENT IS 'LawS0744BRoundTripToldSaid' (YbulkojqFmtCards.lean). -/
def LawS0744BRoundTripFormAsk : Prop := lawS0744BRoundTripRow.holds Ybaf.pinned (OpenSpec.ofChange lawS0744BRoundTripSpec)

/-- ITS FALSE NEIGHBOUR: 'it returns false'. Refute it at one input. -/
def lawS0744BRoundTripWrong : ChangeSpec := { name := "lawS0744BRoundTrip", fn := fun _ => fun
  | [d1, d2, d3, d4] => { results := [.lit (.bool false)], args := [d1, d2, d3, d4] }
  | _ => none }
def LawS0744BRoundTripWrongFormAsk : Prop := lawS0744BRoundTripRow.holds Ybaf.pinned (OpenSpec.ofChange lawS0744BRoundTripWrong)

/-- 'joinkit.LawS0744BRaw': WHATEVER THE INPUT: true; the input reads as it did. -/
def lawS0744BRawSpec : ChangeSpec := { name := "lawS0744BRaw", fn := fun _ => fun
  | [d1, d2, d3] => { results := [.lit (.bool true)], args := [d1, d2, d3] }
  | _ => none }
def lawS0744BRawRow : OpenClaim := { program := "ybulkojqfmt", sum := "2441b83617208ca25b7f1e00c0b335a56f4df2f1ab6a1912c186f7e4c35357c0", func := "example.com/joinkit/joinkit.LawS0744BRaw", spec := "lawS0744BRaw", stops := ["fmt.Sprintf, its operands' methods called"], inPlace := ["fmt.Sprintf"], unfollowed := true, recurses := true, apart := false }
/-- NO THEOREM (fmt's text is open here; it may be false): for the released tool's asking of the row's closed facts alone. THE STATEMENT IS 'LawS0744BRawToldSaid' (YbulkojqFmtCards.lean). -/
def LawS0744BRawFormAsk : Prop := lawS0744BRawRow.holds Ybaf.pinned (OpenSpec.ofChange lawS0744BRawSpec)

/-- ITS FALSE NEIGHBOUR: 'it returns false'. Refute it at one input. -/
def lawS0744BRawWrong : ChangeSpec := { name := "lawS0744BRaw", fn := fun _ => fun
  | [d1, d2, d3] => { results := [.lit (.bool false)], args := [d1, d2, d3] }
  | _ => none }
def LawS0744BRawWrongFormAsk : Prop := lawS0744BRawRow.holds Ybaf.pinned (OpenSpec.ofChange lawS0744BRawWrong)

end Rows
end Go.Proofs.YbulkojqFmt
