/-
  No cell of these rows narrows 'for every input' (looked for: loops, veiled, ifaces, maps, wideKeys, modest, calm, conditions, laid).
  DERIVED. THE GIVEN ROWS OF THIS SEAT. 2 by the template 'for every input the law returns true; each argument reads behind the call as it read before'; 0 by the template 'total and deterministic' (their statements: YbulkoxqTotals.lean).
  GIVEN WITH THE SEED: the statements are not yours to turn. If you find one false, say at which input.
  Laid BY PROGRAM, IN A SANDBOX (cutbox-rows.mjs): the forced cells as the released guide's own fill.sh prints them over the translation a13c968a872ca653… (all of the seat's roots in one cut). By AI agents, Wed Nov 11 2026. No macro, syntax, notation, axiom, sorry.
-/
import Derived.Test.YbulkoxqChecked
import GoSem.Claim
import GoSem.ClaimJoined
import GoSem.ClaimMapViews
import Derived.JoinedTies
import Derived.KernelRfl
namespace Go.Proofs.Ybulkoxq
/- THE CELL 'sum', in the pinned program and in every row, IS THE sha256 OF THE DUMP (.gsa) THAT YbulkoxqProg.lean LOADS. Nothing in Lean hashes anything: it is a label: what it is worth is what the hold of that sum in a sandbox is worth. -/
noncomputable def Yba.pinned : Pinned := { name := "ybulkoxq", sum := "a13c968a872ca653c2a52b28914560195f5beeb919139fbf2fe176977ecb6f21", checked := Yba.checked }
namespace Rows
def none {H : Type} : Left H := { results := [], args := [] }

/-- 'protocol.LawS0770CEncoding': WHATEVER THE INPUT: true; the input reads as it did. -/
def lawS0770CEncodingSpec : ChangeSpec := { name := "lawS0770CEncoding", fn := fun _ => fun
  | [d] => { results := [.lit (.bool true)], args := [d] }
  | _ => none }
def lawS0770CEncodingRow : OpenClaim := { program := "ybulkoxq", sum := "a13c968a872ca653c2a52b28914560195f5beeb919139fbf2fe176977ecb6f21", func := "example.com/adamantine/adamantine/internal/protocol.LawS0770CEncoding", spec := "lawS0770CEncoding", named := ["encoding/binary.BigEndian"], apart := false }
def LawS0770CEncodingSaid : Prop := lawS0770CEncodingRow.holds Yba.pinned (OpenSpec.ofChange lawS0770CEncodingSpec)

/-- ITS FALSE NEIGHBOUR: 'it returns false'. Refute it at one input. -/
def lawS0770CEncodingWrong : ChangeSpec := { name := "lawS0770CEncoding", fn := fun _ => fun
  | [d] => { results := [.lit (.bool false)], args := [d] }
  | _ => none }
def LawS0770CEncodingWrongFalsely : Prop := lawS0770CEncodingRow.holds Yba.pinned (OpenSpec.ofChange lawS0770CEncodingWrong)

/-- 'protocol.LawS0770CPrefix': WHATEVER THE INPUT: true; the input reads as it did. -/
def lawS0770CPrefixSpec : ChangeSpec := { name := "lawS0770CPrefix", fn := fun _ => fun
  | [d] => { results := [.lit (.bool true)], args := [d] }
  | _ => none }
def lawS0770CPrefixRow : OpenClaim := { program := "ybulkoxq", sum := "a13c968a872ca653c2a52b28914560195f5beeb919139fbf2fe176977ecb6f21", func := "example.com/adamantine/adamantine/internal/protocol.LawS0770CPrefix", spec := "lawS0770CPrefix", named := ["encoding/binary.BigEndian"], apart := false }
def LawS0770CPrefixSaid : Prop := lawS0770CPrefixRow.holds Yba.pinned (OpenSpec.ofChange lawS0770CPrefixSpec)

/-- ITS FALSE NEIGHBOUR: 'it returns false'. Refute it at one input. -/
def lawS0770CPrefixWrong : ChangeSpec := { name := "lawS0770CPrefix", fn := fun _ => fun
  | [d] => { results := [.lit (.bool false)], args := [d] }
  | _ => none }
def LawS0770CPrefixWrongFalsely : Prop := lawS0770CPrefixRow.holds Yba.pinned (OpenSpec.ofChange lawS0770CPrefixWrong)

end Rows
end Go.Proofs.Ybulkoxq
