/-
  No cell of these rows narrows 'for every input' (looked for: loops, veiled, ifaces, maps, wideKeys, modest, calm, conditions, laid).
  DERIVED. THE GIVEN ROWS OF THIS SEAT. 2 by the template 'for every input the law returns true; each argument reads behind the call as it read before'; 0 by the template 'total and deterministic' (their statements: YbulkojqTotals.lean).
  GIVEN WITH THE SEED: the statements are not yours to turn. If you find one false, say at which input.
  Laid BY PROGRAM, IN A SANDBOX (cutbox-rows.mjs): the forced cells as the released guide's own fill.sh prints them over the translation 6384ede65981637d… (all of the seat's roots in one cut). By AI agents, Wed Nov 11 2026. No macro, syntax, notation, axiom, sorry.
-/
import Derived.Test.YbulkojqChecked
import GoSem.Claim
import GoSem.ClaimJoined
import GoSem.ClaimMapViews
import Derived.JoinedTies
import Derived.KernelRfl
namespace Go.Proofs.Ybulkojq
/- THE CELL 'sum', in the pinned program and in every row, IS THE sha256 OF THE DUMP (.gsa) THAT YbulkojqProg.lean LOADS. Nothing in Lean hashes anything: it is a label: what it is worth is what the hold of that sum in a sandbox is worth. -/
noncomputable def Yba.pinned : Pinned := { name := "ybulkojq", sum := "6384ede65981637deaec2316074974fc727d127ad8ddd0e8ae38cc28be5a8138", checked := Yba.checked }
namespace Rows
def none {H : Type} : Left H := { results := [], args := [] }

/-- 'joinkit.LawS0744ARoundTrip': WHATEVER THE INPUT: true; the input reads as it did. -/
def lawS0744ARoundTripSpec : ChangeSpec := { name := "lawS0744ARoundTrip", fn := fun _ => fun
  | [d1, d2] => { results := [.lit (.bool true)], args := [d1, d2] }
  | _ => none }
def lawS0744ARoundTripRow : OpenClaim := { program := "ybulkojq", sum := "6384ede65981637deaec2316074974fc727d127ad8ddd0e8ae38cc28be5a8138", func := "example.com/joinkit/joinkit.LawS0744ARoundTrip", spec := "lawS0744ARoundTrip", recurses := true, apart := false }
def LawS0744ARoundTripSaid : Prop := lawS0744ARoundTripRow.holds Yba.pinned (OpenSpec.ofChange lawS0744ARoundTripSpec)

/-- ITS FALSE NEIGHBOUR: 'it returns false'. Refute it at one input. -/
def lawS0744ARoundTripWrong : ChangeSpec := { name := "lawS0744ARoundTrip", fn := fun _ => fun
  | [d1, d2] => { results := [.lit (.bool false)], args := [d1, d2] }
  | _ => none }
def LawS0744ARoundTripWrongFalsely : Prop := lawS0744ARoundTripRow.holds Yba.pinned (OpenSpec.ofChange lawS0744ARoundTripWrong)

/-- 'joinkit.LawS0744AFirstHang': WHATEVER THE INPUT: true; the input reads as it did. -/
def lawS0744AFirstHangSpec : ChangeSpec := { name := "lawS0744AFirstHang", fn := fun _ => fun
  | [d1, d2, d3] => { results := [.lit (.bool true)], args := [d1, d2, d3] }
  | _ => none }
def lawS0744AFirstHangRow : OpenClaim := { program := "ybulkojq", sum := "6384ede65981637deaec2316074974fc727d127ad8ddd0e8ae38cc28be5a8138", func := "example.com/joinkit/joinkit.LawS0744AFirstHang", spec := "lawS0744AFirstHang", recurses := true, apart := false }
def LawS0744AFirstHangSaid : Prop := lawS0744AFirstHangRow.holds Yba.pinned (OpenSpec.ofChange lawS0744AFirstHangSpec)

/-- ITS FALSE NEIGHBOUR: 'it returns false'. Refute it at one input. -/
def lawS0744AFirstHangWrong : ChangeSpec := { name := "lawS0744AFirstHang", fn := fun _ => fun
  | [d1, d2, d3] => { results := [.lit (.bool false)], args := [d1, d2, d3] }
  | _ => none }
def LawS0744AFirstHangWrongFalsely : Prop := lawS0744AFirstHangRow.holds Yba.pinned (OpenSpec.ofChange lawS0744AFirstHangWrong)

end Rows
end Go.Proofs.Ybulkojq
