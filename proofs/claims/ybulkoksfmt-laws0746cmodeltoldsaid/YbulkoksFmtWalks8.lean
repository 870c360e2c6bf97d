import Derived.Test.YbulkoksFmtWalks7
import Derived.Deep.LoopGhost
set_option linter.unusedVariables false
namespace Go.Proofs.YbulkoksFmt
open Go.RowKit Go.Extern.Stop Go.Stop Go.Extern

theorem info3 : (Ybaf.prog.info? 3).map (fun i => (i.zero, i.size, i.bytes)) = some (some (.int .i64 0), 1, 8) := by kernel_rfl

/-- Block g is a row of n numbers, ps. -/
def IntRow (w : World) (g n : Nat) (ps : List Int) : Prop := w.heap[g]? = some (.cells (ps.map (Value.int .i64)).toArray 3 (0, 0)) ∧ ps.length = n

theorem IntRow.ints {w : World} {g n : Nat} {ps : List Int} (h : IntRow w g n ps) : IntsAt w g 0 n ps := by
  intro j hj
  obtain ⟨h1, h2⟩ := h
  have hj' : j < ps.length := by omega
  simp [World.cell?, h1, hj']

theorem IntRow.froz {w : World} {g n j : Nat} {ps : List Int} (h : IntRow w g n ps) : w.frozen? ⟨g, j, none⟩ = false := by
  simp [World.frozen?, h.1]

theorem IntRow.set {w : World} {g n k : Nat} {ps : List Int} (h : IntRow w g n ps) (z : Int) : IntRow (w.setCell ⟨g, k, none⟩ (.int .i64 z)) g n (ps.set k z) := by
  obtain ⟨h1, h2⟩ := h
  refine ⟨?_, by simpa using h2⟩
  simp [World.setCell, Array.getElem?_modify, h1, List.map_set]

theorem IntRow.other {w : World} {g n : Nat} {ps : List Int} (h : IntRow w g n ps) (a : Addr) (v : Value) (hne : g ≠ a.block) : IntRow (w.setCell a v) g n ps := by
  obtain ⟨h1, h2⟩ := h
  exact ⟨by rw [Below.heap_setCell _ _ _ _ hne]; exact h1, h2⟩

theorem IntRow.grown {w w' : World} {g n : Nat} {ps : List Int} (h : IntRow w g n ps) (hg : w.grownBy w' none) : IntRow w' g n ps := by
  obtain ⟨h1, h2⟩ := h
  exact ⟨by rw [hg.block g (Array.getElem?_eq_some_iff.1 h1).1 (by simp)]; exact h1, h2⟩

theorem IntRow.lt {w : World} {g n : Nat} {ps : List Int} (h : IntRow w g n ps) : g < w.heap.size := (Array.getElem?_eq_some_iff.1 h.1).1

theorem intRow_made {w : World} {g n : Nat} (h : w.ownsRow g 3 1 (.slice (some ⟨g, 0, none⟩) n n) n (madeCells #[Value.int .i64 0] n).toList) : IntRow w g n (List.replicate n 0) := by
  obtain ⟨hl, ⟨h0, _⟩ | ⟨g', cap, cur, h0, hg, hh, hnc, hm, hcs, htk⟩⟩ := h
  · cases h0
  · cases h0
    refine ⟨?_, by simp⟩
    rw [hh]
    congr 2
    rw [List.take_of_length_le (by simp; omega)] at htk
    apply Array.ext'
    rw [htk]
    rw [toList_madeCells_one]
    simp

/-- A slice of bytes that came in: each element a byte. -/
def BytesAt (w : World) (a : Option Addr) (n : Nat) (zs : List Int) : Prop := ∀ j, j < n → ∃ g o, a = some ⟨g, o, none⟩ ∧ w.cell? ⟨g, o + j, none⟩ = some (.int .u8 (zs.getD j 0)) ∧ 0 ≤ zs.getD j 0 ∧ zs.getD j 0 < 256

set_option maxHeartbeats 4000000 in
set_option maxRecDepth 100000 in
theorem shaped_walk (F : Interp) (x y z q : Int) (n : Nat) (pb cb pr : Int) (a1 a2 : Option Addr) (n1 k1 n2 k2 : Nat) (z1 z2 : List Int) (w : World) (hF : F.answers w.tape) (hx0 : 0 ≤ x) (hx1 : x < 256) (hy0 : 0 ≤ y) (hy1 : y < 256) (hz0 : 0 ≤ z) (hz1 : z < 256) (hq0 : 0 ≤ q) (hq1 : q < 256)
    (hn : x % 8 + 1 = (n : Int)) (hpb : y % 16 + 1 = pb) (hcb : z % 16 + 1 = cb) (hpr : q % (n : Int) = pr) (h1 : BytesAt w a1 n1 z1) (h2 : BytesAt w a2 n2 z2) (hm1 : n1 ≤ maxLen) (hm2 : n2 ≤ maxLen) :
    Calls Ybaf.prog 4 #[.int .u8 x, .int .u8 y, .int .u8 z, .int .u8 q, .slice a1 n1 k1, .slice a2 n2 k2] w fun e w' => e = .returned (.bool true) ∧ Below w.heap.size w w' := by
  obtain ⟨i, hi, hz0', hz1', hz2'⟩ := info_parts info3
  have HC : Hid (Calls Ybaf.prog 6 #[.int .u8 x, .int .u8 y, .int .u8 z] w fun e w' => ∃ c lb nb cp, e = .returned (.tuple #[.pointer (some ⟨c, 0, none⟩), .int .i64 n, .int .i64 pb, .int .i64 cb, .bool true]) ∧ Clk w' c lb nb cp n (letters n) 1 1 pb cb ∧ Below w.heap.size w w') :=
    clock_any x y z n pb cb w hx0 hx1 hy0 hy1 hz0 hz1 hn hpb hcb
  have HF : Hid (F.answers w.tape) := hF
  have H1 : Hid (BytesAt w a1 n1 z1) := h1
  have H2 : Hid (BytesAt w a2 n2 z2) := h2
  have hn1 : 0 < n := by omega
  have hn8 : n ≤ 8 := by omega
  have hp1 : 1 ≤ pb := by omega
  have hp2 : pb ≤ 16 := by omega
  have hc1 : 1 ≤ cb := by omega
  have hc2 : cb ≤ 16 := by omega
  have hr1 : 0 ≤ pr := by rw [← hpr]; exact Int.emod_nonneg _ (by omega)
  have hr2 : pr < n := by rw [← hpr]; exact Int.emod_lt_of_pos _ (by omega)
  unfold maxLen at hm1 hm2
  clear hn hpb hcb hF h1 h2
  go_enter Ybaf.func4, Ybaf.ntmps4
  go_wp2_with (first | (go_at_call 6; go_must (refine HC.out.mono ?_); rintro e w1 ⟨c, lb, nb, cp, rfl, hk, hb1⟩; have HK := Hid.mk hk; have B1 := Hid.mk hb1; clear hk hb1) | (at_make; go_must (refine wpList_make_full _ rfl _ _ 22 rfl w1.heap.size 3 i (.int .i64 0) 1 Ybaf.underlying22 hi hz0' hz1' _ _ _ _ n rfl rfl rfl rfl (by rw [hz2']; omega) (by unfold maxLen; omega) (Nat.le_refl _) ?_)))
  intro w2 hown2 hgr2
  have R2 : Hid (IntRow w2 w1.heap.size n (List.replicate n 0)) := Hid.mk (intRow_made hown2)
  have B2 : Hid (Below w1.heap.size w1 w2) := Hid.mk ((Below.refl _ w1).grown hgr2 (Nat.le_refl _) (fun k hk => by cases hk))
  clear hown2 hgr2
  go_wp2_with (at_make; go_must (refine wpList_make_full _ rfl _ _ 22 rfl w2.heap.size 3 i (.int .i64 0) 1 Ybaf.underlying22 hi hz0' hz1' _ _ _ _ n rfl rfl rfl rfl (by rw [hz2']; omega) (by unfold maxLen; omega) (Nat.le_refl _) ?_))
  intro w3 hown3 hgr3
  have R3 : Hid (IntRow w3 w2.heap.size n (List.replicate n 0)) := Hid.mk (intRow_made hown3)
  have R2' : Hid (IntRow w3 w1.heap.size n (List.replicate n 0)) := Hid.mk (R2.out.grown hgr3)
  have B3 : Hid (Below w1.heap.size w1 w3) := Hid.mk (B2.out.grown hgr3 B2.out.size (fun k hk => by cases hk))
  have hlt12 : w1.heap.size < w2.heap.size := R2.out.lt
  clear hown3 hgr3 R2 B2
  go_wp2
  go_loopw [20] (fun i wr => ∃ (k : Nat) (ps cs : List Int), k ≤ n ∧ i = .int .i64 k ∧ IntRow wr w1.heap.size n ps ∧ IntRow wr w2.heap.size n cs ∧ Below w1.heap.size w1 wr) (fun i _ => n - (intOf i).toNat)
  case atStart => exact ⟨0, _, _, Nat.zero_le _, rfl, R2'.out, R3.out, B3.out⟩
  case round =>
    obtain ⟨k, ps, cs, hkn, rfl, hP, hC, hB⟩ := hrel
    have HP := Hid.mk hP
    have HCC := Hid.mk hC
    have HB := Hid.mk hB
    have BW : Hid (Below w.heap.size w wr) := Hid.mk (B1.out.trans (hB.mono B1.out.size))
    clear hP hC hB R2' R3 B3
    by_cases hlt : k < n
    · have pk := HP.out.ints k hlt
      have ck := HCC.out.ints k hlt
      have pf : wr.frozen? ⟨w1.heap.size, k, none⟩ = false := HP.out.froz
      have cf : wr.frozen? ⟨w2.heap.size, k, none⟩ = false := HCC.out.froz
      have hlt' : (k : Int) < (n : Int) := by omega
      have ne12 : ¬ w1.heap.size = w2.heap.size := by omega
      have ne21 : ¬ w2.heap.size = w1.heap.size := by omega
      have hsz1 := B1.out.size
      rw [Nat.zero_add] at pk ck
      generalize ps.getD k 0 = pv at pk
      generalize cs.getD k 0 = cv at ck
      by_cases l1 : k < n1
      · obtain ⟨g1, o1, rfl, e1, b1, b1'⟩ := H1.out k l1
        have e1 := cell_later BW.out e1
        generalize z1.getD k 0 = y1 at e1 b1 b1'
        have l1' : (k : Int) < (n1 : Int) := by omega
        by_cases l2 : k < n2
        · obtain ⟨g2, o2, rfl, e2, b2, b2'⟩ := H2.out k l2
          have lg2 : g2 < w.heap.size := World.block_lt_of_cell? _ _ e2
          have e2 := cell_later BW.out e2
          generalize z2.getD k 0 = y2 at e2 b2 b2'
          have l2' : (k : Int) < (n2 : Int) := by omega
          have ng : ¬ g2 = w1.heap.size := by omega
          have ng' : ¬ w1.heap.size = g2 := by omega
          go_wp2
          go_roundw
          case rel => exact ⟨k + 1, _, _, by omega, by go_num, (HP.out.set _).other _ _ ne12, (HCC.out.other _ _ ne21).set _, (HB.out.setCell (Nat.le_refl _) _).setCell (p := ⟨w2.heap.size, k, none⟩) (by show _ ≤ w2.heap.size; omega) _⟩
          case measure => simp [intOf]; omega
        · have l2' : ¬ (k : Int) < (n2 : Int) := by omega
          go_wp2
          go_roundw
          case rel => exact ⟨k + 1, _, _, by omega, by go_num, HP.out.set _, HCC.out.other _ _ ne21, HB.out.setCell (Nat.le_refl _) _⟩
          case measure => simp [intOf]; omega
      · have l1' : ¬ (k : Int) < (n1 : Int) := by omega
        by_cases l2 : k < n2
        · obtain ⟨g2, o2, rfl, e2, b2, b2'⟩ := H2.out k l2
          have lg2 : g2 < w.heap.size := World.block_lt_of_cell? _ _ e2
          have e2 := cell_later BW.out e2
          generalize z2.getD k 0 = y2 at e2 b2 b2'
          have l2' : (k : Int) < (n2 : Int) := by omega
          have ng : ¬ g2 = w1.heap.size := by omega
          have ng' : ¬ w1.heap.size = g2 := by omega
          go_wp2
          go_roundw
          case rel => exact ⟨k + 1, _, _, by omega, by go_num, HP.out.other _ _ ne12, HCC.out.set _, HB.out.setCell (p := ⟨w2.heap.size, k, none⟩) (by show _ ≤ w2.heap.size; omega) _⟩
          case measure => simp [intOf]; omega
        · have l2' : ¬ (k : Int) < (n2 : Int) := by omega
          go_wp2
          go_roundw
          case rel => exact ⟨k + 1, _, _, by omega, by go_num, HP.out, HCC.out, HB.out⟩
          case measure => simp [intOf]; omega
    · obtain rfl : k = n := by omega
      have hwr : w1.heap.size < wr.heap.size := HP.out.lt
      have HKr : Hid (Clk wr c lb nb cp k (letters k) 1 1 pb cb) := Hid.mk (HK.out.later HB.out)
      have HFr : Hid (F.answers wr.tape) := Hid.mk (by rw [BW.out.tape]; exact HF.out)
      rcases agree F pr k pb cb w1.heap.size 0 k w2.heap.size 0 k ps cs wr hn8 hr1 hr2 HP.out.ints HCC.out.ints with ⟨ha, hb⟩ | ⟨ha, hb⟩
      · have HA := Hid.mk (ha wr c lb nb cp HKr.out (Below.refl _ _) HFr.out)
        have HV := Hid.mk hb
        clear ha hb
        go_wp2_with (go_at_call 7; go_must (refine HA.out.mono ?_); rintro e w4 ⟨rfl, hb4⟩; have B4 := Hid.mk hb4; clear hb4)
        go_quiet ((go_at_call 8; exact Calls.quiet_of_same (HV.out _ (bel_drewN B4.out _))))
        go_wp2
        go_ret
        exact ⟨rfl, bel_drewN (BW.out.trans (B4.out.mono BW.out.size)) _⟩
      · have HA := Hid.mk (ha wr c lb nb cp HKr.out (Below.refl _ _) HFr.out)
        have HV := Hid.mk hb
        clear ha hb
        have hne := neq27
        go_wp2_with (go_at_call 7; go_must (refine HA.out.mono ?_); rintro e w4 ⟨⟨er, rfl⟩, hb4⟩; have B4 := Hid.mk hb4; clear hb4)
        go_quiet ((go_at_call 8; exact Calls.quiet_of_same (HV.out _ (bel_drewN B4.out _))))
        go_wp2
        go_ret
        exact ⟨rfl, bel_drewN (BW.out.trans (B4.out.mono BW.out.size)) _⟩
end Go.Proofs.YbulkoksFmt
