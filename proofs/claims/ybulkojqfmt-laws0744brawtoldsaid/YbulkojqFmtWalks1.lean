import Derived.Test.YbulkojqFmtRows
import Derived.Test.YbulkojqFmtShelf
import Derived.WalkKit
import Derived.WalkSpells
import Derived.Stop.CallBack
import Derived.Stop.IfaceNil
import Derived.Deep.QuietTactic
import Derived.BigQuiet
set_option linter.unusedVariables false
namespace Go.Proofs.YbulkojqFmt
open Go.RowKit Go.Extern.Stop Go.Stop Go.Extern

theorem call12 (args : Array Value) (w : World) : (callFunc 12 args).run Ybaf.prog w = (FmtCalls.sprintf #[9, 50] #[9] args).run Ybaf.prog w :=
  run_callFunc_next Ybaf.func12 (by kernel_rfl) (by kernel_rfl) (by kernel_rfl) args w
theorem guard12 (name : String) (w : World) : (FmtStop.guard name).run Ybaf.prog w = .ok () w := by kernel_rfl
theorem nextTurns : Extern.next FmtCalls.turnsRow = some (FmtCalls.begun #[] #[]) := by kernel_rfl

/-- '(*Reader).Errorf' at a format without a verb: a new '*Error' at the offset. -/
theorem errorf_any (F : Interp) (r : Value) (off : Int) (f : ByteArray) (w : World) (hF : F.answers w.tape) (hf : FmtStop.printed? f 0 = some []) :
    Calls Ybaf.prog 10 #[r, .int .i64 off, .string f, .slice none 0 0] w fun e w' => ∃ t, e = .returned (.iface 43 (.pointer (some ⟨w.heap.size, 0, none⟩))) ∧ w' = (w.alloc (.cells #[.int .i64 off, .string t] 46)).drew := by
  have hF' := answers_open hF
  have h1 := call12
  have h2 := guard12
  go_enter Ybaf.func10, Ybaf.ntmps10
  go_wp2
  apply rows_value nextTurns
  case hr =>
    go_simp
    exact ⟨rfl, rfl⟩
  case h =>
    go_wp2
    go_ret
    exact ⟨_, rfl, rfl⟩

theorem fmtEnd : FmtStop.printed? ⟨#[117, 110, 101, 120, 112, 101, 99, 116, 101, 100, 32, 101, 110, 100, 32, 111, 102, 32, 105, 110, 112, 117, 116]⟩ 0 = some [] := by kernel_rfl
theorem fmtBig : FmtStop.printed? ⟨#[110, 117, 109, 98, 101, 114, 32, 100, 111, 101, 115, 32, 110, 111, 116, 32, 102, 105, 116, 32, 105, 110, 32, 54, 52, 32, 98, 105, 116, 115]⟩ 0 = some [] := by kernel_rfl
theorem fmtShort : FmtStop.printed? ⟨#[110, 117, 109, 98, 101, 114, 32, 110, 111, 116, 32, 105, 110, 32, 105, 116, 115, 32, 115, 104, 111, 114, 116, 101, 115, 116, 32, 102, 111, 114, 109]⟩ 0 = some [] := by kernel_rfl
theorem fmtBelow : FmtStop.printed? ⟨#[115, 101, 113, 117, 101, 110, 99, 101, 32, 110, 117, 109, 98, 101, 114, 32, 98, 101, 108, 111, 119, 32, 48]⟩ 0 = some [] := by kernel_rfl

/-- What a refusal leaves: a new '*Error' at the offset, in a new block; nothing old has turned. -/
def Refused (w : World) (off : Int) (e : Value) (w' : World) : Prop :=
  ∃ eb, e = .iface 43 (.pointer (some ⟨eb, 0, none⟩)) ∧ w.heap.size ≤ eb ∧ w'.cell? ⟨eb, 0, none⟩ = some (.int .i64 off) ∧ Below w.heap.size w w'

theorem refused_of (w : World) (m : Nat) (off : Int) (t : ByteArray) (er : Value) (h : er = .iface 43 (.pointer (some ⟨w.heap.size, 0, none⟩))) :
    Refused w off er ((w.drewN m).alloc (.cells #[.int .i64 off, .string t] 46)).drew := by
  subst h
  refine ⟨w.heap.size, rfl, Nat.le_refl _, ?_, ?_⟩
  · show (w.alloc (.cells #[.int .i64 off, .string t] 46)).cell? ⟨w.heap.size, 0, none⟩ = _
    go_simp
  · have h : Below w.heap.size w (w.drewN m) := ⟨rfl, rfl, rfl, Nat.le_refl _, fun _ _ => rfl⟩
    exact (h.alloc (Nat.le_refl _) _).drew

set_option maxHeartbeats 400000 in
/-- '(*Reader).Uvarint' at the end of its input: refused. -/
theorem uv_end (F : Interp) (b c : Nat) (ao : Option Addr) (w : World) (hF : F.answers w.tape)
    (h0 : w.cell? ⟨b, 0, none⟩ = some (.slice ao c c)) (h1 : w.cell? ⟨b, 1, none⟩ = some (.int .i64 c)) (hm : c ≤ maxLen) :
    Calls Ybaf.prog 9 #[.pointer (some ⟨b, 0, none⟩)] w fun e w' => ∃ er, e = .returned (.tuple #[.int .u64 0, er]) ∧ Refused w c er w' := by
  unfold maxLen at hm
  have HF : Hid (F.answers w.tape) := hF
  clear hF
  go_enter Ybaf.func9, Ybaf.ntmps9
  go_wp2
  go_quiet ((go_at_call 11; exact Calls.quiet_of_same (Ybaf.binary_Uvarint_empty _ _ _)))
  go_wp2_with (go_at_call 10; refine (errorf_any F _ _ _ _ (by exact HF.out) fmtEnd).mono ?_; rintro e w' ⟨t, rfl, rfl⟩)
  go_ret2
  exact ⟨_, rfl, refused_of _ _ _ _ _ rfl⟩

set_option maxHeartbeats 400000 in
theorem uv_zero (F : Interp) (b off n c g o : Nat) (v : Nat) (w : World) (hF : F.answers w.tape)
    (h0 : w.cell? ⟨b, 0, none⟩ = some (.slice (some ⟨g, o, none⟩) n c)) (h1 : w.cell? ⟨b, 1, none⟩ = some (.int .i64 off)) (hon : off ≤ n) (hnc : n ≤ c) (hm : c ≤ maxLen) (hne : ¬ c = off)
    (hcall : Hid (∀ m, Calls Ybaf.prog 11 #[.slice (some ⟨g, o + off, none⟩) (n - off) (c - off)] (w.drewN m) fun e w' => e = .returned (.tuple #[.int .u64 v, .int .i64 0]) ∧ w' = w.drewN m)) :
    Calls Ybaf.prog 9 #[.pointer (some ⟨b, 0, none⟩)] w fun e w' => ∃ er, e = .returned (.tuple #[.int .u64 0, er]) ∧ Refused w off er w' := by
  unfold maxLen at hm
  have HF : Hid (F.answers w.tape) := hF
  clear hF
  go_enter Ybaf.func9, Ybaf.ntmps9
  go_wp2
  go_quiet ((go_at_call 11; exact Calls.quiet_of_same (hcall.out _)))
  go_wp2_with (go_at_call 10; refine (errorf_any F _ _ _ _ (by exact HF.out) fmtEnd).mono ?_; rintro e w' ⟨t, rfl, rfl⟩)
  go_ret2
  exact ⟨_, rfl, refused_of _ _ _ _ _ rfl⟩

set_option maxHeartbeats 400000 in
theorem uv_big (F : Interp) (b off n c g o : Nat) (v : Nat) (k : Int) (w : World) (hF : F.answers w.tape)
    (h0 : w.cell? ⟨b, 0, none⟩ = some (.slice (some ⟨g, o, none⟩) n c)) (h1 : w.cell? ⟨b, 1, none⟩ = some (.int .i64 off)) (hon : off ≤ n) (hnc : n ≤ c) (hm : c ≤ maxLen) (hne : ¬ c = off) (hk : k < 0)
    (hcall : Hid (∀ m, Calls Ybaf.prog 11 #[.slice (some ⟨g, o + off, none⟩) (n - off) (c - off)] (w.drewN m) fun e w' => e = .returned (.tuple #[.int .u64 v, .int .i64 k]) ∧ w' = w.drewN m)) :
    Calls Ybaf.prog 9 #[.pointer (some ⟨b, 0, none⟩)] w fun e w' => ∃ er, e = .returned (.tuple #[.int .u64 0, er]) ∧ Refused w off er w' := by
  unfold maxLen at hm
  have HF : Hid (F.answers w.tape) := hF
  clear hF
  go_enter Ybaf.func9, Ybaf.ntmps9
  go_wp2
  go_quiet ((go_at_call 11; exact Calls.quiet_of_same (hcall.out _)))
  go_wp2_with (go_at_call 10; refine (errorf_any F _ _ _ _ (by exact HF.out) fmtBig).mono ?_; rintro e w' ⟨t, rfl, rfl⟩)
  go_ret2
  exact ⟨_, rfl, refused_of _ _ _ _ _ rfl⟩

set_option maxHeartbeats 400000 in
theorem uv_long (F : Interp) (b off n c g o : Nat) (v : Nat) (k : Nat) (w : World) (hF : F.answers w.tape)
    (h0 : w.cell? ⟨b, 0, none⟩ = some (.slice (some ⟨g, o, none⟩) n c)) (h1 : w.cell? ⟨b, 1, none⟩ = some (.int .i64 off)) (hon : off ≤ n) (hnc : n ≤ c) (hm : c ≤ maxLen) (hne : ¬ c = off) (hk : 1 < k) (hkn : off + k ≤ n)
    (hlast : w.cell? ⟨g, o + (off + k - 1), none⟩ = some (.int .u8 0))
    (hcall : Hid (∀ m, Calls Ybaf.prog 11 #[.slice (some ⟨g, o + off, none⟩) (n - off) (c - off)] (w.drewN m) fun e w' => e = .returned (.tuple #[.int .u64 v, .int .i64 k]) ∧ w' = w.drewN m)) :
    Calls Ybaf.prog 9 #[.pointer (some ⟨b, 0, none⟩)] w fun e w' => ∃ er, e = .returned (.tuple #[.int .u64 0, er]) ∧ Refused w off er w' := by
  unfold maxLen at hm
  have HF : Hid (F.answers w.tape) := hF
  clear hF
  have hk' : (1 : Int) < (k : Int) := by omega
  go_enter Ybaf.func9, Ybaf.ntmps9
  go_wp2
  go_quiet ((go_at_call 11; exact Calls.quiet_of_same (hcall.out _)))
  go_wp2
  go_quiet (fail)
  go_wp2_with (go_at_call 10; refine (errorf_any F _ _ _ _ (by exact HF.out) fmtShort).mono ?_; rintro e w' ⟨t, rfl, rfl⟩)
  go_ret2
  exact ⟨_, rfl, refused_of _ _ _ _ _ rfl⟩

set_option maxHeartbeats 400000 in
theorem uv_one (b off n c g o : Nat) (v : Nat) (w : World)
    (h0 : w.cell? ⟨b, 0, none⟩ = some (.slice (some ⟨g, o, none⟩) n c)) (h1 : w.cell? ⟨b, 1, none⟩ = some (.int .i64 off)) (hfz : w.frozen? ⟨b, 1, none⟩ = false) (hon : off + 1 ≤ n) (hnc : n ≤ c) (hm : c ≤ maxLen) (hne : ¬ c = off)
    (hcall : Hid (∀ m, Calls Ybaf.prog 11 #[.slice (some ⟨g, o + off, none⟩) (n - off) (c - off)] (w.drewN m) fun e w' => e = .returned (.tuple #[.int .u64 v, .int .i64 1]) ∧ w' = w.drewN m)) :
    Calls Ybaf.prog 9 #[.pointer (some ⟨b, 0, none⟩)] w fun e w' => e = .returned (.tuple #[.int .u64 v, .nilIface]) ∧ ∃ m, w' = (w.drewN m).setCell ⟨b, 1, none⟩ (.int .i64 ((off + 1 : Nat) : Int)) := by
  unfold maxLen at hm
  go_enter Ybaf.func9, Ybaf.ntmps9
  go_wp2
  go_quiet ((go_at_call 11; exact Calls.quiet_of_same (hcall.out _)))
  go_wp2
  go_quiet (fail)
  go_wp2
  go_ret2
  exact ⟨rfl, _, rfl⟩

set_option maxHeartbeats 400000 in
theorem uv_more (b off n c g o : Nat) (v : Nat) (k : Nat) (z : Nat) (w : World)
    (h0 : w.cell? ⟨b, 0, none⟩ = some (.slice (some ⟨g, o, none⟩) n c)) (h1 : w.cell? ⟨b, 1, none⟩ = some (.int .i64 off)) (hfz : w.frozen? ⟨b, 1, none⟩ = false) (hon : off ≤ n) (hnc : n ≤ c) (hm : c ≤ maxLen) (hne : ¬ c = off) (hk : 1 < k) (hkn : off + k ≤ n)
    (hlast : w.cell? ⟨g, o + (off + k - 1), none⟩ = some (.int .u8 z)) (hz : ((z : Int) == 0) = false)
    (hcall : Hid (∀ m, Calls Ybaf.prog 11 #[.slice (some ⟨g, o + off, none⟩) (n - off) (c - off)] (w.drewN m) fun e w' => e = .returned (.tuple #[.int .u64 v, .int .i64 k]) ∧ w' = w.drewN m)) :
    Calls Ybaf.prog 9 #[.pointer (some ⟨b, 0, none⟩)] w fun e w' => e = .returned (.tuple #[.int .u64 v, .nilIface]) ∧ ∃ m, w' = (w.drewN m).setCell ⟨b, 1, none⟩ (.int .i64 ((off + k : Nat) : Int)) := by
  unfold maxLen at hm
  have hk' : (1 : Int) < (k : Int) := by omega
  go_enter Ybaf.func9, Ybaf.ntmps9
  go_wp2
  go_quiet ((go_at_call 11; exact Calls.quiet_of_same (hcall.out _)))
  go_wp2
  go_quiet (fail)
  go_wp2
  go_ret2
  exact ⟨rfl, _, rfl⟩

theorem ta43 (x : Value) (w : World) : (Instr.typeAssert (.iface 43 x) 31 43 true).run Ybaf.prog w = .ok (.tuple #[x, .bool true]) w := by kernel_rfl

/-- 'zzs0744boffis' at a '*Error': is it at that offset? -/
theorem offis_any (eb : Nat) (x off : Int) (w : World) (h : w.cell? ⟨eb, 0, none⟩ = some (.int .i64 x)) :
    Calls Ybaf.prog 7 #[.iface 43 (.pointer (some ⟨eb, 0, none⟩)), .int .i64 off] w fun e w' => e = .returned (.bool (x == off)) ∧ w' = w := by
  have hta := ta43
  go_enter Ybaf.func7, Ybaf.ntmps7
  go_wp2
  go_ret
  exact ⟨rfl, rfl⟩
end Go.Proofs.YbulkojqFmt
