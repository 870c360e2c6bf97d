import Derived.Test.YbulkoksFmtWalks3
set_option linter.unusedVariables false
namespace Go.Proofs.YbulkoksFmt
open Go.RowKit Go.Extern.Stop Go.Stop Go.Extern

/-- The phase and the counter at j lie within the bounds. -/
def Good (pb cb : Int) (ps cs : List Int) (j : Nat) : Prop := 0 ≤ ps.getD j 0 ∧ ps.getD j 0 < pb ∧ 0 ≤ cs.getD j 0 ∧ cs.getD j 0 < cb

theorem not_good {pb cb : Int} {ps cs : List Int} {j : Nat} (h : ¬ Good pb cb ps cs j) :
    ps.getD j 0 < 0 ∨ (0 ≤ ps.getD j 0 ∧ pb ≤ ps.getD j 0) ∨ (0 ≤ ps.getD j 0 ∧ ps.getD j 0 < pb ∧ cs.getD j 0 < 0) ∨ (0 ≤ ps.getD j 0 ∧ ps.getD j 0 < pb ∧ 0 ≤ cs.getD j 0 ∧ cb ≤ cs.getD j 0) := by
  unfold Good at h
  omega

/-- n numbers lie in a row. -/
def IntsAt (w : World) (g o n : Nat) (ps : List Int) : Prop := ∀ j, j < n → w.cell? ⟨g, o + j, none⟩ = some (.int .i64 (ps.getD j 0))

theorem IntsAt.later {w w' : World} {g o n : Nat} {ps : List Int} (h : IntsAt w g o n ps) (hb : Below w.heap.size w w') : IntsAt w' g o n ps := fun j hj => cell_later hb (h j hj)

set_option maxHeartbeats 1000000 in
/-- 'check' of a timestamp of the clock's shape. -/
theorem check_shaped (F : Interp) (c lb nb cp n : Nat) (ss : List ByteArray) (bef aft pb cb proc : Int) (g1 o1 ca g2 o2 cb' : Nat) (ps cs : List Int) (w : World) (hF : F.answers w.tape) (hk : Clk w c lb nb cp n ss bef aft pb cb)
    (h0 : 0 ≤ proc) (h1 : proc < n) (hp : IntsAt w g1 o1 n ps) (hc : IntsAt w g2 o2 n cs) :
    Calls Ybaf.prog 7 #[.pointer (some ⟨c, 0, none⟩), .agg #[.int .i64 proc, .slice (some ⟨g1, o1, none⟩) n ca, .slice (some ⟨g2, o2, none⟩) n cb']] w fun e w' =>
      ((e = .returned .nilIface ∧ ∀ j, j < n → Good pb cb ps cs j) ∨ (Err e ∧ ∃ j, j < n ∧ ¬ Good pb cb ps cs j)) ∧ Below w.heap.size w w' := by
  have hs := hk.small
  have HF : Hid (F.answers w.tape) := hF
  have HK : Hid (Clk w c lb nb cp n ss bef aft pb cb) := hk
  have HP : Hid (IntsAt w g1 o1 n ps) := hp
  have HC : Hid (IntsAt w g2 o2 n cs) := hc
  clear hF hk hp hc
  go_enter Ybaf.func7, Ybaf.ntmps7
  go_wp2_with (first | (go_at_call 13; go_must (refine (shape_ok c lb nb cp n ss bef aft pb cb proc _ _ ca cb' _ (HK.out.later (by exact (Below.refl _ w).alloc (Nat.le_refl _) _)) h0 h1).mono ?_); rintro e w1 ⟨rfl, hb1⟩; have c0 := HK.out.c0; have B1 : Hid (Below w.heap.size w w1) := Hid.mk (((Below.refl _ w).alloc (Nat.le_refl _) _).trans (hb1.mono (by simp))); have c0' : w1.cell? ⟨c, 0, none⟩ = some (.pointer (some ⟨lb, 0, none⟩)) := cell_later B1.out HK.out.c0; have l0' : w1.cell? ⟨lb, 0, none⟩ = some (.slice (some ⟨nb, 0, none⟩) n cp) := cell_later B1.out HK.out.l0; have t1 : Hid (w1.cell? ⟨w.heap.size, 0, none⟩ = some (.int .i64 proc) ∧ w1.cell? ⟨w.heap.size, 1, none⟩ = some (.slice (some ⟨g1, o1, none⟩) n ca) ∧ w1.cell? ⟨w.heap.size, 2, none⟩ = some (.slice (some ⟨g2, o2, none⟩) n cb')) := Hid.mk ⟨cell_later hb1 (by go_simp), cell_later hb1 (by go_simp), cell_later hb1 (by go_simp)⟩; clear hb1 c0) | (go_at_call 14; go_in))
  go_loopw [19] (fun i wr => ∃ k : Nat, k ≤ n ∧ i = .int .i64 k ∧ (∀ j, j < k → Good pb cb ps cs j) ∧ Below w.heap.size w wr ∧
      (wr.cell? ⟨w.heap.size, 0, none⟩ = some (.int .i64 proc) ∧ wr.cell? ⟨w.heap.size, 1, none⟩ = some (.slice (some ⟨g1, o1, none⟩) n ca) ∧ wr.cell? ⟨w.heap.size, 2, none⟩ = some (.slice (some ⟨g2, o2, none⟩) n cb'))) (fun i _ => n - (intOf i).toNat)
  case atStart => exact ⟨0, Nat.zero_le _, rfl, fun j hj => by omega, B1.out, t1.out⟩
  case round =>
    obtain ⟨k, hkn, rfl, hg, hB, b0, b1, b2⟩ := hrel
    have HG : Hid (∀ j, j < k → Good pb cb ps cs j) := hg
    have HB : Hid (Below w.heap.size w wr) := hB
    clear hg hB B1 t1 c0' l0'
    by_cases hlt : k < n
    · have hpk := HP.out k hlt
      have hck := HC.out k hlt
      have hwr : w.heap.size < wr.heap.size := World.block_lt_of_cell? _ _ b0
      by_cases hgood : Good pb cb ps cs k
      · have HE : Hid (Calls Ybaf.prog 15 #[.pointer (some ⟨c, 0, none⟩), .agg #[.int .i64 proc, .slice (some ⟨g1, o1, none⟩) n ca, .slice (some ⟨g2, o2, none⟩) n cb'], .int .i64 k] wr fun e w' => e = .returned .nilIface ∧ Below wr.heap.size wr w') :=
          Hid.mk (entry_ok c lb nb cp n ss bef aft pb cb proc g1 o1 ca g2 o2 cb' k _ _ wr (HK.out.later HB.out) hlt (cell_later HB.out hpk) (cell_later HB.out hck) hgood.1 hgood.2.1 hgood.2.2.1 hgood.2.2.2)
        have HGk : Hid (∀ j, j < k + 1 → Good pb cb ps cs j) := Hid.mk (by
          intro j hj
          by_cases e : j = k
          · subst e; exact hgood
          · exact HG.out j (by omega))
        clear hpk hck hgood
        go_wp2_with (go_at_call 15; go_must (refine HE.out.mono ?_); rintro e w2 ⟨rfl, hb2⟩; have b0' := cell_later hb2 b0; have b1' := cell_later hb2 b1; have b2' := cell_later hb2 b2; have B2 : Hid (Below w.heap.size w w2) := Hid.mk (HB.out.trans (hb2.mono (by omega))); clear hb2)
        go_roundw
        case rel =>
          (repeat apply Exists.intro)
          exact ⟨⟨k + 1, by omega, by go_num, HGk.out, B2.out, b0', b1', b2'⟩, rfl⟩
        case measure => simp [intOf]; omega
      · have HE : Hid (Calls Ybaf.prog 15 #[.pointer (some ⟨c, 0, none⟩), .agg #[.int .i64 proc, .slice (some ⟨g1, o1, none⟩) n ca, .slice (some ⟨g2, o2, none⟩) n cb'], .int .i64 k] wr fun e w' => Err e ∧ Below wr.heap.size wr w') :=
          Hid.mk (entry_bad F c lb nb cp n ss bef aft pb cb proc g1 o1 ca g2 o2 cb' k _ _ wr (by rw [HB.out.tape]; exact HF.out) (HK.out.later HB.out) hlt (cell_later HB.out hpk) (cell_later HB.out hck) (not_good hgood))
        have HGk : Hid (¬ Good pb cb ps cs k) := hgood
        clear hpk hck hgood
        go_wp2_with (go_at_call 15; go_must (refine HE.out.mono ?_); rintro e w2 ⟨⟨x, rfl⟩, hb2⟩; have B2 : Hid (Below w.heap.size w w2) := Hid.mk (HB.out.trans (hb2.mono (by omega))); clear hb2)
        go_ret
        exact ⟨.inr ⟨⟨_, rfl⟩, k, hlt, HGk.out⟩, B2.out⟩
    · obtain rfl : k = n := by omega
      go_wp2_with fail
      go_ret
      exact ⟨.inl ⟨rfl, HG.out⟩, HB.out⟩

set_option maxHeartbeats 1000000 in
/-- 'check' of a timestamp of another process. -/
theorem check_proc (F : Interp) (c lb nb cp n : Nat) (ss : List ByteArray) (bef aft pb cb proc : Int) (v1 v2 : Value) (h1c : v1.oneCell' = true) (h2c : v2.oneCell' = true) (w : World) (hF : F.answers w.tape) (hk : Clk w c lb nb cp n ss bef aft pb cb)
    (h0 : proc < 0 ∨ (n : Int) ≤ proc) :
    Calls Ybaf.prog 7 #[.pointer (some ⟨c, 0, none⟩), .agg #[.int .i64 proc, v1, v2]] w fun e w' => Err e ∧ Below w.heap.size w w' := by
  have HF : Hid (F.answers w.tape) := hF
  have HK : Hid (Clk w c lb nb cp n ss bef aft pb cb) := hk
  have H0 : Hid (proc < 0 ∨ (n : Int) ≤ proc) := h0
  clear hF hk h0
  go_enter Ybaf.func7, Ybaf.ntmps7
  go_wp2_with (go_at_call 13; go_must (refine (shape_proc F c lb nb cp n ss bef aft pb cb proc _ _ _ (by exact HF.out) (HK.out.later (by exact (Below.refl _ w).alloc (Nat.le_refl _) _)) H0.out).mono ?_); rintro e w1 ⟨⟨x, rfl⟩, hb1⟩)
  go_ret
  exact ⟨⟨_, rfl⟩, ((Below.refl _ w).alloc (Nat.le_refl _) _).trans (hb1.mono (by simp))⟩

set_option maxHeartbeats 1000000 in
/-- 'check' of a timestamp of other lengths. -/
theorem check_len (F : Interp) (c lb nb cp n : Nat) (ss : List ByteArray) (bef aft pb cb proc : Int) (a b : Option Addr) (n1 ca n2 cb' : Nat) (w : World) (hF : F.answers w.tape) (hk : Clk w c lb nb cp n ss bef aft pb cb)
    (h0 : 0 ≤ proc) (h1 : proc < n) (hne : n1 ≠ n ∨ n2 ≠ n) :
    Calls Ybaf.prog 7 #[.pointer (some ⟨c, 0, none⟩), .agg #[.int .i64 proc, .slice a n1 ca, .slice b n2 cb']] w fun e w' => Err e ∧ Below w.heap.size w w' := by
  have HF : Hid (F.answers w.tape) := hF
  have HK : Hid (Clk w c lb nb cp n ss bef aft pb cb) := hk
  have H0 : Hid (n1 ≠ n ∨ n2 ≠ n) := hne
  clear hF hk hne
  go_enter Ybaf.func7, Ybaf.ntmps7
  go_wp2_with (go_at_call 13; go_must (refine (shape_len F c lb nb cp n ss bef aft pb cb proc _ _ n1 ca n2 cb' _ (by exact HF.out) (HK.out.later (by exact (Below.refl _ w).alloc (Nat.le_refl _) _)) h0 h1 H0.out).mono ?_); rintro e w1 ⟨⟨x, rfl⟩, hb1⟩)
  go_ret
  exact ⟨⟨_, rfl⟩, ((Below.refl _ w).alloc (Nat.le_refl _) _).trans (hb1.mono (by simp))⟩
end Go.Proofs.YbulkoksFmt
