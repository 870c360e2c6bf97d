import Derived.Test.YbulkoksFmtWalks6
set_option linter.unusedVariables false
namespace Go.Proofs.YbulkoksFmt
open Go.RowKit Go.Extern.Stop Go.Stop Go.Extern

theorem neq27 (x : Value) (w : World) : (binOp .eql 27 (.iface 58 x) .nilIface).run Ybaf.prog w = .ok (.bool false) w := by kernel_rfl

set_option maxHeartbeats 1000000 in
/-- Both answer 'no': for whatever reason. -/
theorem raw_no (F : Interp) (x y z proc : Int) (n : Nat) (pb cb : Int) (a1 a2 : Option Addr) (n1 k1 n2 k2 : Nat) (w : World) (hF : F.answers w.tape) (hx0 : 0 ≤ x) (hx1 : x < 256) (hy0 : 0 ≤ y) (hy1 : y < 256) (hz0 : 0 ≤ z) (hz1 : z < 256) (hn : x % 8 + 1 = (n : Int)) (hpb : y % 16 + 1 = pb) (hcb : z % 16 + 1 = cb)
    (hchk : Hid (∀ W c lb nb cp, Clk W c lb nb cp n (letters n) 1 1 pb cb → Below w.heap.size w W → F.answers W.tape → Calls Ybaf.prog 7 #[.pointer (some ⟨c, 0, none⟩), .agg #[.int .i64 proc, .slice a1 n1 k1, .slice a2 n2 k2]] W fun e w' => Err e ∧ Below W.heap.size W w'))
    (hval : Hid (∀ W, Below w.heap.size w W → Calls Ybaf.prog 8 #[.int .i64 n, .int .i64 pb, .int .i64 cb, .int .i64 proc, .slice a1 n1 k1, .slice a2 n2 k2] W fun e w' => e = .returned (.bool false) ∧ w' = W)) :
    Calls Ybaf.prog 3 #[.int .u8 x, .int .u8 y, .int .u8 z, .int .i64 proc, .slice a1 n1 k1, .slice a2 n2 k2] w fun e w' => e = .returned (.bool true) ∧ Below w.heap.size w w' := by
  have HC : Hid (Calls Ybaf.prog 6 #[.int .u8 x, .int .u8 y, .int .u8 z] w fun e w' => ∃ c lb nb cp, e = .returned (.tuple #[.pointer (some ⟨c, 0, none⟩), .int .i64 n, .int .i64 pb, .int .i64 cb, .bool true]) ∧ Clk w' c lb nb cp n (letters n) 1 1 pb cb ∧ Below w.heap.size w w') :=
    clock_any x y z n pb cb w hx0 hx1 hy0 hy1 hz0 hz1 hn hpb hcb
  have HF : Hid (F.answers w.tape) := hF
  clear hn hpb hcb hF
  go_enter Ybaf.func3, Ybaf.ntmps3
  go_wp2_with (first | (go_at_call 6; go_must (refine HC.out.mono ?_); rintro e w1 ⟨c, lb, nb, cp, rfl, hk, hb1⟩; have HK := Hid.mk hk; have B1 := Hid.mk hb1; clear hk hb1) | (go_at_call 7; go_must (refine (hchk.out _ c lb nb cp HK.out B1.out (by rw [B1.out.tape]; exact HF.out)).mono ?_); rintro e w2 ⟨⟨er, rfl⟩, hb2⟩; have B2 : Hid (Below w.heap.size w w2) := Hid.mk (B1.out.trans (hb2.mono B1.out.size)); clear hb2))
  go_quiet ((go_at_call 8; exact Calls.quiet_of_same (hval.out _ (bel_drewN B2.out _))))
  go_wp2
  go_ret
  exact ⟨rfl, bel_drewN B2.out _⟩

set_option maxHeartbeats 1000000 in
/-- Both answer 'yes'. -/
theorem raw_yes (F : Interp) (x y z proc : Int) (n : Nat) (pb cb : Int) (a1 a2 : Option Addr) (n1 k1 n2 k2 : Nat) (w : World) (hF : F.answers w.tape) (hx0 : 0 ≤ x) (hx1 : x < 256) (hy0 : 0 ≤ y) (hy1 : y < 256) (hz0 : 0 ≤ z) (hz1 : z < 256) (hn : x % 8 + 1 = (n : Int)) (hpb : y % 16 + 1 = pb) (hcb : z % 16 + 1 = cb)
    (hchk : Hid (∀ W c lb nb cp, Clk W c lb nb cp n (letters n) 1 1 pb cb → Below w.heap.size w W → F.answers W.tape → Calls Ybaf.prog 7 #[.pointer (some ⟨c, 0, none⟩), .agg #[.int .i64 proc, .slice a1 n1 k1, .slice a2 n2 k2]] W fun e w' => e = .returned .nilIface ∧ Below W.heap.size W w'))
    (hval : Hid (∀ W, Below w.heap.size w W → Calls Ybaf.prog 8 #[.int .i64 n, .int .i64 pb, .int .i64 cb, .int .i64 proc, .slice a1 n1 k1, .slice a2 n2 k2] W fun e w' => e = .returned (.bool true) ∧ w' = W)) :
    Calls Ybaf.prog 3 #[.int .u8 x, .int .u8 y, .int .u8 z, .int .i64 proc, .slice a1 n1 k1, .slice a2 n2 k2] w fun e w' => e = .returned (.bool true) ∧ Below w.heap.size w w' := by
  have HC : Hid (Calls Ybaf.prog 6 #[.int .u8 x, .int .u8 y, .int .u8 z] w fun e w' => ∃ c lb nb cp, e = .returned (.tuple #[.pointer (some ⟨c, 0, none⟩), .int .i64 n, .int .i64 pb, .int .i64 cb, .bool true]) ∧ Clk w' c lb nb cp n (letters n) 1 1 pb cb ∧ Below w.heap.size w w') :=
    clock_any x y z n pb cb w hx0 hx1 hy0 hy1 hz0 hz1 hn hpb hcb
  have HF : Hid (F.answers w.tape) := hF
  clear hn hpb hcb hF
  go_enter Ybaf.func3, Ybaf.ntmps3
  go_wp2_with (first | (go_at_call 6; go_must (refine HC.out.mono ?_); rintro e w1 ⟨c, lb, nb, cp, rfl, hk, hb1⟩; have HK := Hid.mk hk; have B1 := Hid.mk hb1; clear hk hb1) | (go_at_call 7; go_must (refine (hchk.out _ c lb nb cp HK.out B1.out (by rw [B1.out.tape]; exact HF.out)).mono ?_); rintro e w2 ⟨rfl, hb2⟩; have B2 : Hid (Below w.heap.size w w2) := Hid.mk (B1.out.trans (hb2.mono B1.out.size)); clear hb2))
  go_quiet ((go_at_call 8; exact Calls.quiet_of_same (hval.out _ (bel_drewN B2.out _))))
  go_wp2
  go_ret
  exact ⟨rfl, bel_drewN B2.out _⟩

/-- 'check' and 'valid' of a timestamp, in whatever world behind w: they agree. -/
theorem agree (F : Interp) (proc : Int) (n : Nat) (pb cb : Int) (g1 o1 k1 g2 o2 k2 : Nat) (ps cs : List Int) (w : World) (hn : n ≤ 8) (h0 : 0 ≤ proc) (h1 : proc < n) (hp : IntsAt w g1 o1 n ps) (hc : IntsAt w g2 o2 n cs) :
    ((∀ W c lb nb cp, Clk W c lb nb cp n (letters n) 1 1 pb cb → Below w.heap.size w W → F.answers W.tape → Calls Ybaf.prog 7 #[.pointer (some ⟨c, 0, none⟩), .agg #[.int .i64 proc, .slice (some ⟨g1, o1, none⟩) n k1, .slice (some ⟨g2, o2, none⟩) n k2]] W fun e w' => e = .returned .nilIface ∧ Below W.heap.size W w') ∧
      ∀ W, Below w.heap.size w W → Calls Ybaf.prog 8 #[.int .i64 n, .int .i64 pb, .int .i64 cb, .int .i64 proc, .slice (some ⟨g1, o1, none⟩) n k1, .slice (some ⟨g2, o2, none⟩) n k2] W fun e w' => e = .returned (.bool true) ∧ w' = W) ∨
    ((∀ W c lb nb cp, Clk W c lb nb cp n (letters n) 1 1 pb cb → Below w.heap.size w W → F.answers W.tape → Calls Ybaf.prog 7 #[.pointer (some ⟨c, 0, none⟩), .agg #[.int .i64 proc, .slice (some ⟨g1, o1, none⟩) n k1, .slice (some ⟨g2, o2, none⟩) n k2]] W fun e w' => Err e ∧ Below W.heap.size W w') ∧
      ∀ W, Below w.heap.size w W → Calls Ybaf.prog 8 #[.int .i64 n, .int .i64 pb, .int .i64 cb, .int .i64 proc, .slice (some ⟨g1, o1, none⟩) n k1, .slice (some ⟨g2, o2, none⟩) n k2] W fun e w' => e = .returned (.bool false) ∧ w' = W) := by
  by_cases hall : ∀ j, j < n → Good pb cb ps cs j
  · left
    refine ⟨fun W c lb nb cp hk hb hF => (check_shaped F c lb nb cp n (letters n) 1 1 pb cb proc g1 o1 k1 g2 o2 k2 ps cs W hF hk h0 h1 (hp.later hb) (hc.later hb)).mono ?_, fun W hb => (valid_shaped n pb cb proc g1 o1 k1 g2 o2 k2 ps cs W hn h0 h1 (hp.later hb) (hc.later hb)).mono ?_⟩
    · rintro e w' ⟨⟨he, _⟩ | ⟨_, j, hj, hng⟩, hb'⟩
      · exact ⟨he, hb'⟩
      · exact absurd (hall j hj) hng
    · rintro e w' ⟨⟨he, _⟩ | ⟨_, j, hj, hng⟩, hb'⟩
      · exact ⟨he, hb'⟩
      · exact absurd (hall j hj) hng
  · right
    refine ⟨fun W c lb nb cp hk hb hF => (check_shaped F c lb nb cp n (letters n) 1 1 pb cb proc g1 o1 k1 g2 o2 k2 ps cs W hF hk h0 h1 (hp.later hb) (hc.later hb)).mono ?_, fun W hb => (valid_shaped n pb cb proc g1 o1 k1 g2 o2 k2 ps cs W hn h0 h1 (hp.later hb) (hc.later hb)).mono ?_⟩
    · rintro e w' ⟨⟨_, hg⟩ | ⟨he, _⟩, hb'⟩
      · exact absurd hg hall
      · exact ⟨he, hb'⟩
    · rintro e w' ⟨⟨_, hg⟩ | ⟨he, _⟩, hb'⟩
      · exact absurd hg hall
      · exact ⟨he, hb'⟩
end Go.Proofs.YbulkoksFmt
