import Derived.Test.YbulkoksFmtWalks9
set_option linter.unusedVariables false
namespace Go.Proofs.YbulkoksFmt
open Go.RowKit Go.Extern.Stop Go.Stop Go.Extern

set_option maxHeartbeats 1000000 in
/-- The entry of e is out of bounds. -/
theorem hb_bad1 (F : Interp) (c lb nb cp n : Nat) (ss : List ByteArray) (bef aft pb cb pf : Int) (g1 k1 g2 k2 g3 k3 g4 k4 j : Nat) (p1 c1 p2 c2 : List Int) (w : World) (hF : F.answers w.tape) (hk : Clk w c lb nb cp n ss bef aft pb cb) (hj : j < n) (h0 : 0 ≤ pf) (h1 : pf < n)
    (i1 : IntsAt w g1 0 n p1) (i2 : IntsAt w g2 0 n c1) (i3 : IntsAt w g3 0 n p2) (i4 : IntsAt w g4 0 n c2) (hg : ¬ Good pb cb p1 c1 j) :
    Calls Ybaf.prog 11 #[.pointer (some ⟨c, 0, none⟩), .agg #[.int .i64 j, .slice (some ⟨g1, 0, none⟩) n k1, .slice (some ⟨g2, 0, none⟩) n k2], .agg #[.int .i64 pf, .slice (some ⟨g3, 0, none⟩) n k3, .slice (some ⟨g4, 0, none⟩) n k4]] w fun e w' => Refuses e ∧ Below w.heap.size w w' := by
  have HE : Hid (∀ W, Below w.heap.size w W → Calls Ybaf.prog 13 #[.pointer (some ⟨c, 0, none⟩), .agg #[.int .i64 j, .slice (some ⟨g1, 0, none⟩) n k1, .slice (some ⟨g2, 0, none⟩) n k2]] W fun e w' => e = .returned .nilIface ∧ Below W.heap.size W w') := Hid.mk (by
    intro W hb
    exact shape_ok c lb nb cp n ss bef aft pb cb j _ _ k1 k2 W (hk.later hb) (by omega) (by omega))
  have HS : Hid (∀ W, Below w.heap.size w W → Calls Ybaf.prog 13 #[.pointer (some ⟨c, 0, none⟩), .agg #[.int .i64 pf, .slice (some ⟨g3, 0, none⟩) n k3, .slice (some ⟨g4, 0, none⟩) n k4]] W fun e w' => e = .returned .nilIface ∧ Below W.heap.size W w') := Hid.mk (by
    intro W hb
    exact shape_ok c lb nb cp n ss bef aft pb cb pf _ _ k3 k4 W (hk.later hb) h0 h1)
  have H1 : Hid (∀ W, Below w.heap.size w W → Calls Ybaf.prog 15 #[.pointer (some ⟨c, 0, none⟩), .agg #[.int .i64 j, .slice (some ⟨g1, 0, none⟩) n k1, .slice (some ⟨g2, 0, none⟩) n k2], .int .i64 j] W fun e w' => Err e ∧ Below W.heap.size W w') := Hid.mk (by
    intro W hb
    exact entry_bad F c lb nb cp n ss bef aft pb cb j g1 0 k1 g2 0 k2 j _ _ W (by rw [hb.tape]; exact hF) (hk.later hb) hj (cell_later hb (i1 j hj)) (cell_later hb (i2 j hj)) (not_good hg))
  have hs := hk.small
  clear hk hF hg i1 i2 i3 i4
  go_enter Ybaf.func11, Ybaf.ntmps11
  go_wp2_with fail
  refine (HE.out _ (by exact ((Below.refl _ w).alloc (Nat.le_refl _) _).alloc (by simp) _)).mono ?_
  rintro e w1 ⟨rfl, hb1⟩
  have B1 : Hid (Below w.heap.size w w1) := Hid.mk ((((Below.refl _ w).alloc (Nat.le_refl _) _).alloc (by simp) _).trans (hb1.mono (by simp; omega)))
  have e0 : w1.cell? ⟨w.heap.size, 0, none⟩ = some (.int .i64 j) := cell_later hb1 (by go_simp)
  have e1 : w1.cell? ⟨w.heap.size, 1, none⟩ = some (.slice (some ⟨g1, 0, none⟩) n k1) := cell_later hb1 (by go_simp)
  have e2 : w1.cell? ⟨w.heap.size, 2, none⟩ = some (.slice (some ⟨g2, 0, none⟩) n k2) := cell_later hb1 (by go_simp)
  have f0 : w1.cell? ⟨w.heap.size + 1, 0, none⟩ = some (.int .i64 pf) := cell_later hb1 (by go_simp)
  have f1 : w1.cell? ⟨w.heap.size + 1, 1, none⟩ = some (.slice (some ⟨g3, 0, none⟩) n k3) := cell_later hb1 (by go_simp)
  have f2 : w1.cell? ⟨w.heap.size + 1, 2, none⟩ = some (.slice (some ⟨g4, 0, none⟩) n k4) := cell_later hb1 (by go_simp)
  clear hb1
  go_wp2_with fail
  refine (HS.out _ B1.out).mono ?_
  rintro e w2 ⟨rfl, hb2⟩
  have B2 : Hid (Below w.heap.size w w2) := Hid.mk (B1.out.trans (hb2.mono B1.out.size))
  have e0 := cell_later hb2 e0
  have e1 := cell_later hb2 e1
  have e2 := cell_later hb2 e2
  have f0 := cell_later hb2 f0
  have f1 := cell_later hb2 f1
  have f2 := cell_later hb2 f2
  clear hb2 B1
  go_wp2_with fail
  refine (H1.out _ B2.out).mono ?_
  rintro e w3 ⟨⟨x, rfl⟩, hb3⟩
  go_wp2_with fail
  go_ret2
  exact ⟨⟨_, rfl⟩, B2.out.trans (hb3.mono B2.out.size)⟩

set_option maxHeartbeats 1000000 in
/-- The entry of f is out of bounds. -/
theorem hb_bad2 (F : Interp) (c lb nb cp n : Nat) (ss : List ByteArray) (bef aft pb cb pf : Int) (g1 k1 g2 k2 g3 k3 g4 k4 j : Nat) (p1 c1 p2 c2 : List Int) (w : World) (hF : F.answers w.tape) (hk : Clk w c lb nb cp n ss bef aft pb cb) (hj : j < n) (h0 : 0 ≤ pf) (h1 : pf < n)
    (i1 : IntsAt w g1 0 n p1) (i2 : IntsAt w g2 0 n c1) (i3 : IntsAt w g3 0 n p2) (i4 : IntsAt w g4 0 n c2) (hg1 : Good pb cb p1 c1 j) (hg : ¬ Good pb cb p2 c2 j) :
    Calls Ybaf.prog 11 #[.pointer (some ⟨c, 0, none⟩), .agg #[.int .i64 j, .slice (some ⟨g1, 0, none⟩) n k1, .slice (some ⟨g2, 0, none⟩) n k2], .agg #[.int .i64 pf, .slice (some ⟨g3, 0, none⟩) n k3, .slice (some ⟨g4, 0, none⟩) n k4]] w fun e w' => Refuses e ∧ Below w.heap.size w w' := by
  have HE : Hid (∀ W, Below w.heap.size w W → Calls Ybaf.prog 13 #[.pointer (some ⟨c, 0, none⟩), .agg #[.int .i64 j, .slice (some ⟨g1, 0, none⟩) n k1, .slice (some ⟨g2, 0, none⟩) n k2]] W fun e w' => e = .returned .nilIface ∧ Below W.heap.size W w') := Hid.mk (by
    intro W hb
    exact shape_ok c lb nb cp n ss bef aft pb cb j _ _ k1 k2 W (hk.later hb) (by omega) (by omega))
  have HS : Hid (∀ W, Below w.heap.size w W → Calls Ybaf.prog 13 #[.pointer (some ⟨c, 0, none⟩), .agg #[.int .i64 pf, .slice (some ⟨g3, 0, none⟩) n k3, .slice (some ⟨g4, 0, none⟩) n k4]] W fun e w' => e = .returned .nilIface ∧ Below W.heap.size W w') := Hid.mk (by
    intro W hb
    exact shape_ok c lb nb cp n ss bef aft pb cb pf _ _ k3 k4 W (hk.later hb) h0 h1)
  have H1 : Hid (∀ W, Below w.heap.size w W → Calls Ybaf.prog 15 #[.pointer (some ⟨c, 0, none⟩), .agg #[.int .i64 j, .slice (some ⟨g1, 0, none⟩) n k1, .slice (some ⟨g2, 0, none⟩) n k2], .int .i64 j] W fun e w' => e = .returned .nilIface ∧ Below W.heap.size W w') := Hid.mk (by
    intro W hb
    exact entry_ok c lb nb cp n ss bef aft pb cb j g1 0 k1 g2 0 k2 j _ _ W (hk.later hb) hj (cell_later hb (i1 j hj)) (cell_later hb (i2 j hj)) hg1.1 hg1.2.1 hg1.2.2.1 hg1.2.2.2)
  have H2 : Hid (∀ W, Below w.heap.size w W → Calls Ybaf.prog 15 #[.pointer (some ⟨c, 0, none⟩), .agg #[.int .i64 pf, .slice (some ⟨g3, 0, none⟩) n k3, .slice (some ⟨g4, 0, none⟩) n k4], .int .i64 j] W fun e w' => Err e ∧ Below W.heap.size W w') := Hid.mk (by
    intro W hb
    exact entry_bad F c lb nb cp n ss bef aft pb cb pf g3 0 k3 g4 0 k4 j _ _ W (by rw [hb.tape]; exact hF) (hk.later hb) hj (cell_later hb (i3 j hj)) (cell_later hb (i4 j hj)) (not_good hg))
  have hs := hk.small
  clear hk hF hg hg1 i1 i2 i3 i4
  go_enter Ybaf.func11, Ybaf.ntmps11
  go_wp2_with fail
  refine (HE.out _ (by exact ((Below.refl _ w).alloc (Nat.le_refl _) _).alloc (by simp) _)).mono ?_
  rintro e w1 ⟨rfl, hb1⟩
  have B1 : Hid (Below w.heap.size w w1) := Hid.mk ((((Below.refl _ w).alloc (Nat.le_refl _) _).alloc (by simp) _).trans (hb1.mono (by simp; omega)))
  have e0 : w1.cell? ⟨w.heap.size, 0, none⟩ = some (.int .i64 j) := cell_later hb1 (by go_simp)
  have e1 : w1.cell? ⟨w.heap.size, 1, none⟩ = some (.slice (some ⟨g1, 0, none⟩) n k1) := cell_later hb1 (by go_simp)
  have e2 : w1.cell? ⟨w.heap.size, 2, none⟩ = some (.slice (some ⟨g2, 0, none⟩) n k2) := cell_later hb1 (by go_simp)
  have f0 : w1.cell? ⟨w.heap.size + 1, 0, none⟩ = some (.int .i64 pf) := cell_later hb1 (by go_simp)
  have f1 : w1.cell? ⟨w.heap.size + 1, 1, none⟩ = some (.slice (some ⟨g3, 0, none⟩) n k3) := cell_later hb1 (by go_simp)
  have f2 : w1.cell? ⟨w.heap.size + 1, 2, none⟩ = some (.slice (some ⟨g4, 0, none⟩) n k4) := cell_later hb1 (by go_simp)
  clear hb1
  go_wp2_with fail
  refine (HS.out _ B1.out).mono ?_
  rintro e w2 ⟨rfl, hb2⟩
  have B2 : Hid (Below w.heap.size w w2) := Hid.mk (B1.out.trans (hb2.mono B1.out.size))
  have e0 := cell_later hb2 e0
  have e1 := cell_later hb2 e1
  have e2 := cell_later hb2 e2
  have f0 := cell_later hb2 f0
  have f1 := cell_later hb2 f1
  have f2 := cell_later hb2 f2
  clear hb2 B1
  go_wp2_with fail
  refine (H1.out _ B2.out).mono ?_
  rintro e w3 ⟨rfl, hb3⟩
  have B3 : Hid (Below w.heap.size w w3) := Hid.mk (B2.out.trans (hb3.mono B2.out.size))
  have e0 := cell_later hb3 e0
  have e1 := cell_later hb3 e1
  have e2 := cell_later hb3 e2
  have f0 := cell_later hb3 f0
  have f1 := cell_later hb3 f1
  have f2 := cell_later hb3 f2
  clear hb3 B2
  go_wp2_with fail
  refine (H2.out _ B3.out).mono ?_
  rintro e w4 ⟨⟨x, rfl⟩, hb4⟩
  go_wp2_with fail
  go_ret2
  exact ⟨⟨_, rfl⟩, B3.out.trans (hb4.mono B3.out.size)⟩

/-- What the doc's rule answers. -/
def want (bef aft pe ce pf cf : Int) : Bool := if pf < pe then decide (pf + bef ≤ pe) else if pe < pf then decide (pf < pe + aft) else decide (ce ≤ cf)

theorem ret_w {a b : Bool} {x : Value} (h : a = b) : Ending.returned (.tuple #[.bool a, x]) = .returned (.tuple #[.bool b, x]) := by rw [h]

set_option maxHeartbeats 4000000 in
/-- All is within bounds. -/
theorem hb_ok (c lb nb cp n : Nat) (ss : List ByteArray) (bef aft pb cb pf : Int) (g1 k1 g2 k2 g3 k3 g4 k4 j : Nat) (p1 c1 p2 c2 : List Int) (w : World) (hk : Clk w c lb nb cp n ss bef aft pb cb) (hj : j < n) (h0 : 0 ≤ pf) (h1 : pf < n)
    (i1 : IntsAt w g1 0 n p1) (i2 : IntsAt w g2 0 n c1) (i3 : IntsAt w g3 0 n p2) (i4 : IntsAt w g4 0 n c2) (hg1 : Good pb cb p1 c1 j) (hg : Good pb cb p2 c2 j) (hpb : pb ≤ 16) (hcb : cb ≤ 16) (hbef : 0 ≤ bef) (haft : 0 ≤ aft) :
    Calls Ybaf.prog 11 #[.pointer (some ⟨c, 0, none⟩), .agg #[.int .i64 j, .slice (some ⟨g1, 0, none⟩) n k1, .slice (some ⟨g2, 0, none⟩) n k2], .agg #[.int .i64 pf, .slice (some ⟨g3, 0, none⟩) n k3, .slice (some ⟨g4, 0, none⟩) n k4]] w fun e w' => e = .returned (.tuple #[.bool (want bef aft (p1.getD j 0) (c1.getD j 0) (p2.getD j 0) (c2.getD j 0)), .nilIface]) ∧ Below w.heap.size w w' := by
  have HE : Hid (∀ W, Below w.heap.size w W → Calls Ybaf.prog 13 #[.pointer (some ⟨c, 0, none⟩), .agg #[.int .i64 j, .slice (some ⟨g1, 0, none⟩) n k1, .slice (some ⟨g2, 0, none⟩) n k2]] W fun e w' => e = .returned .nilIface ∧ Below W.heap.size W w') := Hid.mk (by
    intro W hb
    exact shape_ok c lb nb cp n ss bef aft pb cb j _ _ k1 k2 W (hk.later hb) (by omega) (by omega))
  have HS : Hid (∀ W, Below w.heap.size w W → Calls Ybaf.prog 13 #[.pointer (some ⟨c, 0, none⟩), .agg #[.int .i64 pf, .slice (some ⟨g3, 0, none⟩) n k3, .slice (some ⟨g4, 0, none⟩) n k4]] W fun e w' => e = .returned .nilIface ∧ Below W.heap.size W w') := Hid.mk (by
    intro W hb
    exact shape_ok c lb nb cp n ss bef aft pb cb pf _ _ k3 k4 W (hk.later hb) h0 h1)
  have H1 : Hid (∀ W, Below w.heap.size w W → Calls Ybaf.prog 15 #[.pointer (some ⟨c, 0, none⟩), .agg #[.int .i64 j, .slice (some ⟨g1, 0, none⟩) n k1, .slice (some ⟨g2, 0, none⟩) n k2], .int .i64 j] W fun e w' => e = .returned .nilIface ∧ Below W.heap.size W w') := Hid.mk (by
    intro W hb
    exact entry_ok c lb nb cp n ss bef aft pb cb j g1 0 k1 g2 0 k2 j _ _ W (hk.later hb) hj (cell_later hb (i1 j hj)) (cell_later hb (i2 j hj)) hg1.1 hg1.2.1 hg1.2.2.1 hg1.2.2.2)
  have H2 : Hid (∀ W, Below w.heap.size w W → Calls Ybaf.prog 15 #[.pointer (some ⟨c, 0, none⟩), .agg #[.int .i64 pf, .slice (some ⟨g3, 0, none⟩) n k3, .slice (some ⟨g4, 0, none⟩) n k4], .int .i64 j] W fun e w' => e = .returned .nilIface ∧ Below W.heap.size W w') := Hid.mk (by
    intro W hb
    exact entry_ok c lb nb cp n ss bef aft pb cb pf g3 0 k3 g4 0 k4 j _ _ W (hk.later hb) hj (cell_later hb (i3 j hj)) (cell_later hb (i4 j hj)) hg.1 hg.2.1 hg.2.2.1 hg.2.2.2)
  have HK := Hid.mk hk
  have q1 := i1 j hj
  have q2 := i2 j hj
  have q3 := i3 j hj
  have q4 := i4 j hj
  obtain ⟨u1, u2, u3, u4⟩ := hg1
  obtain ⟨u5, u6, u7, u8⟩ := hg
  generalize p1.getD j 0 = x1 at q1 u1 u2
  generalize c1.getD j 0 = x2 at q2 u3 u4
  generalize p2.getD j 0 = x3 at q3 u5 u6
  generalize c2.getD j 0 = x4 at q4 u7 u8
  have hs := hk.small
  clear hk i1 i2 i3 i4
  go_enter Ybaf.func11, Ybaf.ntmps11
  go_wp2_with fail
  refine (HE.out _ (by exact ((Below.refl _ w).alloc (Nat.le_refl _) _).alloc (by simp) _)).mono ?_
  rintro e w1 ⟨rfl, hb1⟩
  have B1 : Hid (Below w.heap.size w w1) := Hid.mk ((((Below.refl _ w).alloc (Nat.le_refl _) _).alloc (by simp) _).trans (hb1.mono (by simp; omega)))
  have e0 : w1.cell? ⟨w.heap.size, 0, none⟩ = some (.int .i64 j) := cell_later hb1 (by go_simp)
  have e1 : w1.cell? ⟨w.heap.size, 1, none⟩ = some (.slice (some ⟨g1, 0, none⟩) n k1) := cell_later hb1 (by go_simp)
  have e2 : w1.cell? ⟨w.heap.size, 2, none⟩ = some (.slice (some ⟨g2, 0, none⟩) n k2) := cell_later hb1 (by go_simp)
  have f0 : w1.cell? ⟨w.heap.size + 1, 0, none⟩ = some (.int .i64 pf) := cell_later hb1 (by go_simp)
  have f1 : w1.cell? ⟨w.heap.size + 1, 1, none⟩ = some (.slice (some ⟨g3, 0, none⟩) n k3) := cell_later hb1 (by go_simp)
  have f2 : w1.cell? ⟨w.heap.size + 1, 2, none⟩ = some (.slice (some ⟨g4, 0, none⟩) n k4) := cell_later hb1 (by go_simp)
  clear hb1
  go_wp2_with fail
  refine (HS.out _ B1.out).mono ?_
  rintro e w2 ⟨rfl, hb2⟩
  have B2 : Hid (Below w.heap.size w w2) := Hid.mk (B1.out.trans (hb2.mono B1.out.size))
  have e0 := cell_later hb2 e0
  have e1 := cell_later hb2 e1
  have e2 := cell_later hb2 e2
  have f0 := cell_later hb2 f0
  have f1 := cell_later hb2 f1
  have f2 := cell_later hb2 f2
  clear hb2 B1
  go_wp2_with fail
  refine (H1.out _ B2.out).mono ?_
  rintro e w3 ⟨rfl, hb3⟩
  have B3 : Hid (Below w.heap.size w w3) := Hid.mk (B2.out.trans (hb3.mono B2.out.size))
  have e0 := cell_later hb3 e0
  have e1 := cell_later hb3 e1
  have e2 := cell_later hb3 e2
  have f0 := cell_later hb3 f0
  have f1 := cell_later hb3 f1
  have f2 := cell_later hb3 f2
  clear hb3 B2
  go_wp2_with fail
  refine (H2.out _ B3.out).mono ?_
  rintro e w4 ⟨rfl, hb4⟩
  have B4 : Hid (Below w.heap.size w w4) := Hid.mk (B3.out.trans (hb4.mono B3.out.size))
  have e0 := cell_later hb4 e0
  have e1 := cell_later hb4 e1
  have e2 := cell_later hb4 e2
  have f0 := cell_later hb4 f0
  have f1 := cell_later hb4 f1
  have f2 := cell_later hb4 f2
  have q1 := cell_later B4.out q1
  have q2 := cell_later B4.out q2
  have q3 := cell_later B4.out q3
  have q4 := cell_later B4.out q4
  have K4 := HK.out.later B4.out
  have d1 := K4.c1
  have d2 := K4.c2
  rw [Nat.zero_add] at q1 q2 q3 q4
  have hjn : (j : Int) < (n : Int) := by omega
  clear hb4 B3 K4
  go_wp2_with fail
  go_quiet (fail)
  rcases Int.lt_trichotomy x1 x3 with hlt | heq | hgt
  · go_wp2
    go_ret2
    exact ⟨ret_w (by unfold want; rw [if_neg (by omega), if_pos hlt]; exact decide_eq_decide.2 (by omega)), bel_drewN B4.out _⟩
  · subst heq
    go_wp2
    go_quiet (fail)
    go_wp2
    go_ret2
    exact ⟨ret_w (by unfold want; rw [if_neg (by omega), if_neg (by omega)]), bel_drewN (bel_drewN B4.out _) _⟩
  · go_wp2
    go_ret2
    exact ⟨ret_w (by unfold want; rw [if_pos hgt]; exact decide_eq_decide.2 (by omega)), bel_drewN B4.out _⟩
end Go.Proofs.YbulkoksFmt
