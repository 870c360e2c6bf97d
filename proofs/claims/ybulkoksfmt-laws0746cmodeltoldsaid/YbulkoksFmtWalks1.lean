import Derived.Test.YbulkoksFmtRows
import Derived.WalkKit
import Derived.WalkSpells
import Derived.Stop.CallBack
import Derived.Stop.IfaceNil
import Derived.Deep.QuietTactic
import Derived.BigQuiet
import Derived.Deep.RegionWith
import Derived.Maps.AppendAt
import Derived.Maps.OwnSet
set_option linter.unusedVariables false
namespace Go.Proofs.YbulkoksFmt
open Go.RowKit Go.Extern.Stop Go.Stop Go.Extern

theorem Hid.mk {p : Prop} (h : p) : Hid p := h

theorem call20 (args : Array Value) (w : World) : (callFunc 20 args).run Ybaf.prog w = ((FmtStop.errorf #[9, 61] #[27] args).run Ybaf.prog w).andThen fun v w' => .ok (.value v) w' :=
  run_callFunc_extern Ybaf.func20 (by kernel_rfl) (by kernel_rfl) (by kernel_rfl) (by kernel_rfl) args w
theorem guard20 (name : String) (w : World) : (FmtStop.guard name).run Ybaf.prog w = .ok () w := by kernel_rfl
def shape9 : List UInt8 := [12, 6, 0, 0, 0, 0, 0, 0, 0, 115, 116, 114, 105, 110, 103]
def shape3 : List UInt8 := [5, 3, 0, 0, 0, 0, 0, 0, 0, 105, 110, 116]
theorem op9 (name : String) (x : ByteArray) (w : World) : (FmtStop.operand name true 115 false (.iface 9 (.string x))).run Ybaf.prog w = .ok (shape9, FmtStop.pack x.data.toList) w := by kernel_rfl
theorem op3 (name : String) (x : Int) (w : World) : (FmtStop.operand name true 100 false (.iface 3 (.int .i64 x))).run Ybaf.prog w = .ok (shape3, Go.Extern.Stop.digits 8 (x % 2 ^ 64).toNat) w := by kernel_rfl
theorem ptr58 (w : World) : (FmtStop.ptrTo "errors.errorString").run Ybaf.prog w = .ok 58 w := by kernel_rfl
theorem elem58 (w : World) : (elemOf 58).run Ybaf.prog w = .ok 60 w := by kernel_rfl
theorem isErr58 (w : World) : (FmtDoors.textMethod 58 "Error").run Ybaf.prog w = .ok true w := by kernel_rfl

theorem prF1 (w : World) : (FmtDoors.printed ⟨#[116, 105, 109, 101, 115, 116, 97, 109, 112, 32, 111, 102, 32, 112, 114, 111, 99, 101, 115, 115, 32, 37, 100, 44, 32, 111, 102, 32, 97, 32, 99, 108, 111, 99, 107, 32, 111, 102, 32, 37, 100, 32, 112, 114, 111, 99, 101, 115, 115, 101, 115]⟩ 2).run Ybaf.prog w = .ok [(0, 100, false), (1, 100, false)] w := by kernel_rfl
theorem prF2 (w : World) : (FmtDoors.printed ⟨#[116, 105, 109, 101, 115, 116, 97, 109, 112, 32, 111, 102, 32, 37, 100, 32, 112, 104, 97, 115, 101, 115, 32, 97, 110, 100, 32, 37, 100, 32, 99, 111, 117, 110, 116, 101, 114, 115, 44, 32, 111, 102, 32, 97, 32, 99, 108, 111, 99, 107, 32, 111, 102, 32, 37, 100, 32, 112, 114, 111, 99, 101, 115, 115, 101, 115]⟩ 3).run Ybaf.prog w = .ok [(0, 100, false), (1, 100, false), (2, 100, false)] w := by kernel_rfl
theorem prF3 (w : World) : (FmtDoors.printed ⟨#[112, 104, 97, 115, 101, 32, 37, 100, 32, 97, 110, 100, 32, 99, 111, 117, 110, 116, 101, 114, 32, 37, 100, 32, 102, 111, 114, 32, 37, 115, 44, 32, 111, 117, 116, 32, 111, 102, 32, 98, 111, 117, 110, 100, 115, 32, 37, 100, 32, 97, 110, 100, 32, 37, 100]⟩ 5).run Ybaf.prog w = .ok [(0, 100, false), (1, 100, false), (2, 115, false), (3, 100, false), (4, 100, false)] w := by kernel_rfl
attribute [local go_sem] call20 guard20 op9 op3 ptr58 elem58 isErr58 prF1 prF2 prF3

set_option maxHeartbeats 400000 in
/-- fmt.Errorf: of process. -/
theorem errorfF1 (F : Interp) (g c : Nat) (x0 x1 : Int) (w : World) (hF : F.answers w.tape) (c0 : w.cell? ⟨g, 0, none⟩ = some (.iface 3 (.int .i64 x0))) (c1 : w.cell? ⟨g, 1, none⟩ = some (.iface 3 (.int .i64 x1))) :
    Calls Ybaf.prog 17 #[.string ⟨#[116, 105, 109, 101, 115, 116, 97, 109, 112, 32, 111, 102, 32, 112, 114, 111, 99, 101, 115, 115, 32, 37, 100, 44, 32, 111, 102, 32, 97, 32, 99, 108, 111, 99, 107, 32, 111, 102, 32, 37, 100, 32, 112, 114, 111, 99, 101, 115, 115, 101, 115]⟩, .slice (some ⟨g, 0, none⟩) 2 c] w fun e w' => e = .returned (.iface 58 (.pointer (some ⟨w.heap.size, 0, none⟩))) ∧ Below w.heap.size w w' := by
  have hF' := answers_open hF
  go_enter Ybaf.func17, Ybaf.ntmps17
  go_wp2
  go_ret
  exact ⟨rfl, ((Below.refl _ w).alloc (Nat.le_refl _) _).drew⟩

set_option maxHeartbeats 400000 in
/-- fmt.Errorf: of phases. -/
theorem errorfF2 (F : Interp) (g c : Nat) (x0 x1 x2 : Int) (w : World) (hF : F.answers w.tape) (c0 : w.cell? ⟨g, 0, none⟩ = some (.iface 3 (.int .i64 x0))) (c1 : w.cell? ⟨g, 1, none⟩ = some (.iface 3 (.int .i64 x1))) (c2 : w.cell? ⟨g, 2, none⟩ = some (.iface 3 (.int .i64 x2))) :
    Calls Ybaf.prog 17 #[.string ⟨#[116, 105, 109, 101, 115, 116, 97, 109, 112, 32, 111, 102, 32, 37, 100, 32, 112, 104, 97, 115, 101, 115, 32, 97, 110, 100, 32, 37, 100, 32, 99, 111, 117, 110, 116, 101, 114, 115, 44, 32, 111, 102, 32, 97, 32, 99, 108, 111, 99, 107, 32, 111, 102, 32, 37, 100, 32, 112, 114, 111, 99, 101, 115, 115, 101, 115]⟩, .slice (some ⟨g, 0, none⟩) 3 c] w fun e w' => e = .returned (.iface 58 (.pointer (some ⟨w.heap.size, 0, none⟩))) ∧ Below w.heap.size w w' := by
  have hF' := answers_open hF
  go_enter Ybaf.func17, Ybaf.ntmps17
  go_wp2
  go_ret
  exact ⟨rfl, ((Below.refl _ w).alloc (Nat.le_refl _) _).drew⟩

set_option maxHeartbeats 400000 in
/-- fmt.Errorf: of a phase. -/
theorem errorfF3 (F : Interp) (g c : Nat) (x0 x1 x3 x4 : Int) (x2 : ByteArray) (w : World) (hF : F.answers w.tape) (c0 : w.cell? ⟨g, 0, none⟩ = some (.iface 3 (.int .i64 x0))) (c1 : w.cell? ⟨g, 1, none⟩ = some (.iface 3 (.int .i64 x1))) (c2 : w.cell? ⟨g, 2, none⟩ = some (.iface 9 (.string x2))) (c3 : w.cell? ⟨g, 3, none⟩ = some (.iface 3 (.int .i64 x3))) (c4 : w.cell? ⟨g, 4, none⟩ = some (.iface 3 (.int .i64 x4))) :
    Calls Ybaf.prog 17 #[.string ⟨#[112, 104, 97, 115, 101, 32, 37, 100, 32, 97, 110, 100, 32, 99, 111, 117, 110, 116, 101, 114, 32, 37, 100, 32, 102, 111, 114, 32, 37, 115, 44, 32, 111, 117, 116, 32, 111, 102, 32, 98, 111, 117, 110, 100, 115, 32, 37, 100, 32, 97, 110, 100, 32, 37, 100]⟩, .slice (some ⟨g, 0, none⟩) 5 c] w fun e w' => e = .returned (.iface 58 (.pointer (some ⟨w.heap.size, 0, none⟩))) ∧ Below w.heap.size w w' := by
  have hF' := answers_open hF
  go_enter Ybaf.func17, Ybaf.ntmps17
  go_wp2
  go_ret
  exact ⟨rfl, ((Below.refl _ w).alloc (Nat.le_refl _) _).drew⟩

end Go.Proofs.YbulkoksFmt
