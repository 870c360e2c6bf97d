import Derived.Test.YbulkojqRows
import Derived.WalkKit
import Derived.WalkSpells
import Derived.Deep.QuietTactic
import Derived.BigQuiet
import Derived.Deep.RegionWith
import Derived.Maps.AppendAt
set_option linter.unusedVariables false
namespace Go.Proofs.Ybulkojq
open Go.RowKit

theorem Hid.mk {p : Prop} (h : p) : Hid p := h

set_option maxHeartbeats 400000 in
/-- 'takeRoom' of values, the room is full: the room itself comes back; what is pointed to is nil now. -/
theorem room_v_clip (b o n c : Nat) (a : Option Addr) (w : World) (hc : w.cell? ⟨b, o, none⟩ = some (.slice a n c)) (hf : w.frozen? ⟨b, o, none⟩ = false)
    (hnc : n ≤ c) (hm : c ≤ maxLen) (h : c ≤ n ∨ 64 ≤ n) :
    Calls Yba.prog 14 #[.pointer (some ⟨b, o, none⟩)] w fun e w' => e = .returned (.slice a n n) ∧ ∃ m, w' = (w.drewN m).setCell ⟨b, o, none⟩ (.slice none 0 0) := by
  unfold maxLen at hm
  by_cases hlt : n < c
  · have h64 : 64 ≤ n := by omega
    have hlt' : (n : Int) < (c : Int) := by omega
    have h64' : decide ((n : Int) < 64) = false := by simp; omega
    go_enter Yba.func14, Yba.ntmps14
    go_wp2
    go_quiet (fail)
    go_wp2
    go_ret
    exact ⟨rfl, _, rfl⟩
  · obtain rfl : c = n := by omega
    go_enter Yba.func14, Yba.ntmps14
    go_wp2
    go_quiet (fail)
    go_wp2
    go_ret
    exact ⟨rfl, _, rfl⟩

set_option maxHeartbeats 400000 in
/-- 'takeRoom' of children, the room is full: the room itself comes back; what is pointed to is nil now. -/
theorem room_c_clip (b o n c : Nat) (a : Option Addr) (w : World) (hc : w.cell? ⟨b, o, none⟩ = some (.slice a n c)) (hf : w.frozen? ⟨b, o, none⟩ = false)
    (hnc : n ≤ c) (hm : c ≤ maxLen) (h : c ≤ n ∨ 64 ≤ n) :
    Calls Yba.prog 13 #[.pointer (some ⟨b, o, none⟩)] w fun e w' => e = .returned (.slice a n n) ∧ ∃ m, w' = (w.drewN m).setCell ⟨b, o, none⟩ (.slice none 0 0) := by
  unfold maxLen at hm
  by_cases hlt : n < c
  · have h64 : 64 ≤ n := by omega
    have hlt' : (n : Int) < (c : Int) := by omega
    have h64' : decide ((n : Int) < 64) = false := by simp; omega
    go_enter Yba.func13, Yba.ntmps13
    go_wp2
    go_quiet (fail)
    go_wp2
    go_ret
    exact ⟨rfl, _, rfl⟩
  · obtain rfl : c = n := by omega
    go_enter Yba.func13, Yba.ntmps13
    go_wp2
    go_quiet (fail)
    go_wp2
    go_ret
    exact ⟨rfl, _, rfl⟩

set_option maxHeartbeats 800000 in
/-- 'node' of a leaf whose room is full. -/
theorem node0_clip (b o n c : Nat) (a : Option Addr) (held : Int) (w : World) (hh : w.cell? ⟨b, o + 1, none⟩ = some (.int .u64 held)) (hc : w.cell? ⟨b, o + 2, none⟩ = some (.slice a n c)) (hf : w.frozen? ⟨b, o + 2, none⟩ = false)
    (hnc : n ≤ c) (hm : c ≤ maxLen) (h : c ≤ n ∨ 64 ≤ n) :
    Calls Yba.prog 11 #[.pointer (some ⟨b, o, none⟩), .int .i64 0] w fun e w' => e = .returned (.pointer (some ⟨w.heap.size, 0, none⟩)) ∧ ∃ m, w' = ((w.drewN m).setCell ⟨b, o + 2, none⟩ (.slice none 0 0)).alloc (.cells #[.int .u64 held, .slice a n n, .slice none 0 0] 46) := by
  have HR : Hid (∀ m, Calls Yba.prog 14 #[.pointer (some ⟨b, o + 2, none⟩)] (w.drewN m) fun e w' => e = .returned (.slice a n n) ∧ ∃ m', w' = (w.drewN m').setCell ⟨b, o + 2, none⟩ (.slice none 0 0)) := by
    intro m
    refine (room_v_clip b (o + 2) n c a (w.drewN m) (by simpa using hc) (by simpa using hf) hnc hm h).mono ?_
    rintro e w' ⟨he, m', rfl⟩
    exact ⟨he, m + m', by simp⟩
  go_enter Yba.func11, Yba.ntmps11
  go_wp2
  go_region_with (go_at_call 14; go_must (refine (HR.out 1).mono ?_); rintro e w' ⟨rfl, m', rfl⟩)
  all_goals
    go_wp2
    go_ret
    exact ⟨rfl, _, rfl⟩
end Go.Proofs.Ybulkojq
