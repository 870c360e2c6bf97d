import Derived.Test.YbulkojqFmtWalks3
import Derived.Test.YbulkojqFmtWalks4
set_option linter.unusedVariables false
namespace Go.Proofs.YbulkojqFmt
open Go.RowKit Go.Extern.Stop Go.Stop Go.Extern

theorem buv_at (g b o n c : Nat) (l : List UInt8) (w W : World) (r : Value) (hb : Below w.heap.size w W) (hl : l.length = n) (hon : o ≤ n) (hn : n ≤ maxLen)
    (hc : ∀ j (hj : j < l.length), w.cell? ⟨g, b + j, none⟩ = some (.int .u8 (l[j]).toNat)) (hr : buvOf (dec (l.drop o)) = r) :
    Calls Ybaf.prog 8 #[.slice (some ⟨g, b + o, none⟩) (n - o) (c - o)] W fun e w' => e = .returned r ∧ w' = W := by
  subst hr
  rw [← dec_eq]
  refine buv_any g (b + o) (n - o) (c - o) (l.drop o) W (by simp; omega) (by omega) ?_
  intro j hj
  have h := hc (o + j) (by simp at hj; omega)
  rw [Nat.add_assoc, cell_later hb h]
  simp

theorem buv_nil (ao : Option Addr) (c : Nat) (w : World) :
    Calls Ybaf.prog 8 #[.slice ao 0 c] w fun e w' => e = .returned (.tuple #[.int .u64 0, .int .i64 0, .bool false]) ∧ w' = w := buv_empty ao c w

set_option maxHeartbeats 400000 in
theorem raw_big (v1 v2 : Value) (ao : Option Addr) (n c : Nat) (w : World) (hn : 4096 < n) :
    Calls Ybaf.prog 4 #[.slice ao n c, v1, v2] w fun e w' => e = .returned (.bool true) ∧ w' = w := by
  go_enter Ybaf.func4, Ybaf.ntmps4
  go_wp2
  go_ret
  exact ⟨rfl, rfl⟩

set_option maxHeartbeats 800000 in
/-- The offset is at the capacity's end: nothing to read. -/
theorem raw_end (F : Interp) (ao : Option Addr) (c : Nat) (off seq : Int) (w : World) (hF : F.answers w.tape) (hc : c ≤ 4096) (h0 : 0 ≤ off) (h1 : off < 65536) (ho : off % ((c : Int) + 1) = (c : Int)) :
    Calls Ybaf.prog 4 #[.slice ao c c, .int .u16 off, .int .u64 seq] w fun e w' => e = .returned (.bool true) ∧ Below w.heap.size w w' := by
  have HR : Hid (Calls Ybaf.prog 6 #[.pointer (some ⟨w.heap.size, 0, none⟩), .int .u64 seq] (decAt w ao c c c) fun e w' => ∃ eb, e = .returned (.tuple #[.int .u64 0, .iface 43 (.pointer (some ⟨eb, 0, none⟩))]) ∧ w'.cell? ⟨eb, 0, none⟩ = some (.int .i64 c) ∧ Below w.heap.size w w') := by
    refine rd_none F c c c ao (List.replicate c 0) seq w hF (Nat.le_refl _) (Nat.le_refl _) (by unfold maxLen; omega) (by simp) (fun h => absurd rfl h) ?_
    rw [List.drop_of_length_le (by simp)]
    decide
  clear hF
  go_enter Ybaf.func4, Ybaf.ntmps4
  go_wp2_with (first | (go_at_call 6; go_must (refine HR.out.mono ?_); rintro e w5 ⟨eb, rfl, hce, hb5⟩; have B5 := Hid.mk hb5; clear hb5) | (go_at_call 8; go_must (refine (buv_nil _ _ _).mono ?_); rintro e w6 ⟨rfl, rfl⟩) | (go_at_call 7; go_must (refine (offis_any _ _ _ _ hce).mono ?_); rintro e w6 ⟨rfl, rfl⟩))
  go_ret
  exact ⟨by simp, B5.out⟩

set_option maxHeartbeats 800000 in
/-- The reader refuses. -/
theorem raw_none (F : Interp) (g b n c o : Nat) (l : List UInt8) (off seq : Int) (w : World) (hF : F.answers w.tape) (hn : n ≤ 4096) (hnc : n ≤ c) (hm : c ≤ maxLen) (hon : o ≤ n) (hne : ¬ c = o) (hl : l.length = n)
    (hcell : ∀ j (hj : j < l.length), w.cell? ⟨g, b + j, none⟩ = some (.int .u8 (l[j]).toNat)) (hd : dec (l.drop o) = none) (h0 : 0 ≤ off) (h1 : off < 65536) (ho : off % ((n : Int) + 1) = (o : Int)) :
    Calls Ybaf.prog 4 #[.slice (some ⟨g, b, none⟩) n c, .int .u16 off, .int .u64 seq] w fun e w' => e = .returned (.bool true) ∧ Below w.heap.size w w' := by
  have HR : Hid (Calls Ybaf.prog 6 #[.pointer (some ⟨w.heap.size, 0, none⟩), .int .u64 seq] (decAt w (some ⟨g, b, none⟩) n c o) fun e w' => ∃ eb, e = .returned (.tuple #[.int .u64 0, .iface 43 (.pointer (some ⟨eb, 0, none⟩))]) ∧ w'.cell? ⟨eb, 0, none⟩ = some (.int .i64 o) ∧ Below w.heap.size w w') :=
    rd_none F o n c _ l seq w hF hon hnc hm hl (fun _ => ⟨g, b, rfl, hcell⟩) hd
  have HB : Hid (∀ W, Below w.heap.size w W → Calls Ybaf.prog 8 #[.slice (some ⟨g, b + o, none⟩) (n - o) (c - o)] W fun e w' => e = .returned (.tuple #[.int .u64 0, .int .i64 0, .bool false]) ∧ w' = W) :=
    fun W hb => buv_at g b o n c l w W _ hb hl hon (by omega) hcell (by rw [hd]; rfl)
  clear hF hcell hd hl
  unfold maxLen at hm
  go_enter Ybaf.func4, Ybaf.ntmps4
  go_wp2_with (first | (go_at_call 6; go_must (refine HR.out.mono ?_); rintro e w5 ⟨eb, rfl, hce, hb5⟩; have B5 := Hid.mk hb5; clear hb5) | (go_at_call 8; go_must (refine (HB.out _ B5.out).mono ?_); rintro e w6 ⟨rfl, rfl⟩) | (go_at_call 7; go_must (refine (offis_any _ _ _ _ hce).mono ?_); rintro e w6 ⟨rfl, rfl⟩))
  go_ret
  exact ⟨by simp, B5.out⟩

set_option maxHeartbeats 800000 in
/-- The gap is too large. -/
theorem raw_ge (F : Interp) (g b n c o v k : Nat) (l : List UInt8) (off seq : Int) (w : World) (hF : F.answers w.tape) (hn : n ≤ 4096) (hnc : n ≤ c) (hm : c ≤ maxLen) (hon : o ≤ n) (hne : ¬ c = o) (hl : l.length = n)
    (hcell : ∀ j (hj : j < l.length), w.cell? ⟨g, b + j, none⟩ = some (.int .u8 (l[j]).toNat)) (hd : dec (l.drop o) = some (v, k)) (h0 : 0 ≤ off) (h1 : off < 65536) (ho : off % ((n : Int) + 1) = (o : Int)) (hv : seq ≤ v) :
    Calls Ybaf.prog 4 #[.slice (some ⟨g, b, none⟩) n c, .int .u16 off, .int .u64 seq] w fun e w' => e = .returned (.bool true) ∧ Below w.heap.size w w' := by
  have HR : Hid (Calls Ybaf.prog 6 #[.pointer (some ⟨w.heap.size, 0, none⟩), .int .u64 seq] (decAt w (some ⟨g, b, none⟩) n c o) fun e w' => ∃ eb, e = .returned (.tuple #[.int .u64 0, .iface 43 (.pointer (some ⟨eb, 0, none⟩))]) ∧ w'.cell? ⟨eb, 0, none⟩ = some (.int .i64 o) ∧ Below w.heap.size w w') :=
    rd_big F o n c _ l seq v k w hF hon hnc hm hl (fun _ => ⟨g, b, rfl, hcell⟩) hd hv
  have HB : Hid (∀ W, Below w.heap.size w W → Calls Ybaf.prog 8 #[.slice (some ⟨g, b + o, none⟩) (n - o) (c - o)] W fun e w' => e = .returned (.tuple #[.int .u64 v, .int .i64 k, .bool true]) ∧ w' = W) :=
    fun W hb => buv_at g b o n c l w W _ hb hl hon (by omega) hcell (by rw [hd]; rfl)
  clear hF hcell hd hl
  unfold maxLen at hm
  go_enter Ybaf.func4, Ybaf.ntmps4
  go_wp2_with (first | (go_at_call 6; go_must (refine HR.out.mono ?_); rintro e w5 ⟨eb, rfl, hce, hb5⟩; have B5 := Hid.mk hb5; clear hb5) | (go_at_call 8; go_must (refine (HB.out _ B5.out).mono ?_); rintro e w6 ⟨rfl, rfl⟩) | (go_at_call 7; go_must (refine (offis_any _ _ _ _ hce).mono ?_); rintro e w6 ⟨rfl, rfl⟩))
  go_ret
  exact ⟨by simp, B5.out⟩

set_option maxHeartbeats 800000 in
/-- All is well. -/
theorem raw_lt (g b n c o v k : Nat) (l : List UInt8) (off seq : Int) (w : World) (hn : n ≤ 4096) (hnc : n ≤ c) (hm : c ≤ maxLen) (hon : o ≤ n) (hne : ¬ c = o) (hl : l.length = n)
    (hcell : ∀ j (hj : j < l.length), w.cell? ⟨g, b + j, none⟩ = some (.int .u8 (l[j]).toNat)) (hd : dec (l.drop o) = some (v, k)) (h0 : 0 ≤ off) (h1 : off < 65536) (ho : off % ((n : Int) + 1) = (o : Int)) (hv : (v : Int) < seq) (hs : seq < 18446744073709551616) :
    Calls Ybaf.prog 4 #[.slice (some ⟨g, b, none⟩) n c, .int .u16 off, .int .u64 seq] w fun e w' => e = .returned (.bool true) ∧ Below w.heap.size w w' := by
  have HR : Hid (Calls Ybaf.prog 6 #[.pointer (some ⟨w.heap.size, 0, none⟩), .int .u64 seq] (decAt w (some ⟨g, b, none⟩) n c o) fun e w' => e = .returned (.tuple #[.int .u64 (seq - 1 - v), .nilIface]) ∧ w'.cell? ⟨w.heap.size, 1, none⟩ = some (.int .i64 ((o + k : Nat) : Int)) ∧ Below w.heap.size w w') :=
    rd_ok o n c _ l seq v k w hon hnc hm hl (fun _ => ⟨g, b, rfl, hcell⟩) hd hv hs
  have HB : Hid (∀ W, Below w.heap.size w W → Calls Ybaf.prog 8 #[.slice (some ⟨g, b + o, none⟩) (n - o) (c - o)] W fun e w' => e = .returned (.tuple #[.int .u64 v, .int .i64 k, .bool true]) ∧ w' = W) :=
    fun W hb => buv_at g b o n c l w W _ hb hl hon (by omega) hcell (by rw [hd]; rfl)
  obtain ⟨_, _, hk1, hk2, _, _⟩ := dec_some hd
  have hk3 : o + k ≤ n := by simp at hk2; omega
  clear hcell hd hl hk2
  unfold maxLen at hm
  go_enter Ybaf.func4, Ybaf.ntmps4
  go_wp2_with (first | (go_at_call 6; go_must (refine HR.out.mono ?_); rintro e w5 ⟨rfl, hce, hb5⟩; have B5 := Hid.mk hb5; clear hb5) | (go_at_call 8; go_must (refine (HB.out _ B5.out).mono ?_); rintro e w6 ⟨rfl, rfl⟩))
  go_ret
  exact ⟨ret_true (by simp), B5.out⟩
end Go.Proofs.YbulkojqFmt
