import Derived.Test.YbulkoksFmtWalks2
import Derived.Deep.RegionHeld
set_option linter.unusedVariables false
namespace Go.Proofs.YbulkoksFmt
open Go.RowKit Go.Extern.Stop Go.Stop Go.Extern

theorem bel_drewN {B : Nat} {a w : World} (h : Below B a w) (m : Nat) : Below B a (w.drewN m) := ⟨h.os, h.tape, h.output, h.size, h.block⟩

set_option maxHeartbeats 400000 in
theorem entry_ok (c lb nb cp n : Nat) (ss : List ByteArray) (bef aft pb cb proc : Int) (g1 o1 ca g2 o2 cb' k : Nat) (ph ct : Int) (w : World) (hk : Clk w c lb nb cp n ss bef aft pb cb) (hkn : k < n)
    (hp : w.cell? ⟨g1, o1 + k, none⟩ = some (.int .i64 ph)) (hc : w.cell? ⟨g2, o2 + k, none⟩ = some (.int .i64 ct)) (h1 : 0 ≤ ph) (h2 : ph < pb) (h3 : 0 ≤ ct) (h4 : ct < cb) :
    Calls Ybaf.prog 15 #[.pointer (some ⟨c, 0, none⟩), .agg #[.int .i64 proc, .slice (some ⟨g1, o1, none⟩) n ca, .slice (some ⟨g2, o2, none⟩) n cb'], .int .i64 k] w fun e w' => e = .returned .nilIface ∧ Below w.heap.size w w' := by
  have hs := hk.small
  have lc : c < w.heap.size := World.block_lt_of_cell? _ _ hk.c0
  have lg1 : g1 < w.heap.size := World.block_lt_of_cell? _ _ hp
  have lg2 : g2 < w.heap.size := World.block_lt_of_cell? _ _ hc
  have c4 := hk.c4
  have c5 := hk.c5
  have hkn' : (k : Int) < (n : Int) := by omega
  clear hk
  go_enter Ybaf.func15, Ybaf.ntmps15
  go_wp2
  go_quiet (fail)
  go_wp2
  go_ret
  exact ⟨rfl, bel_drewN ((Below.refl _ w).alloc (Nat.le_refl _) _) _⟩

theorem name_any (lb nb cp n k : Nat) (s : ByteArray) (w : World) (l0 : w.cell? ⟨lb, 0, none⟩ = some (.slice (some ⟨nb, 0, none⟩) n cp)) (hk : k < n) (hn : n ≤ 8) (hc : w.cell? ⟨nb, k, none⟩ = some (.string s)) :
    Calls Ybaf.prog 19 #[.pointer (some ⟨lb, 0, none⟩), .int .i64 k] w fun e w' => e = .returned (.string s) ∧ w' = w := by
  go_enter Ybaf.func19, Ybaf.ntmps19
  go_wp2
  go_ret
  exact ⟨rfl, rfl⟩

set_option maxHeartbeats 8000000 in
theorem entry_bad (F : Interp) (c lb nb cp n : Nat) (ss : List ByteArray) (bef aft pb cb proc : Int) (g1 o1 ca g2 o2 cb' k : Nat) (ph ct : Int) (w : World) (hF : F.answers w.tape) (hk : Clk w c lb nb cp n ss bef aft pb cb) (hkn : k < n)
    (hp : w.cell? ⟨g1, o1 + k, none⟩ = some (.int .i64 ph)) (hc : w.cell? ⟨g2, o2 + k, none⟩ = some (.int .i64 ct))
    (hbad : ph < 0 ∨ (0 ≤ ph ∧ pb ≤ ph) ∨ (0 ≤ ph ∧ ph < pb ∧ ct < 0) ∨ (0 ≤ ph ∧ ph < pb ∧ 0 ≤ ct ∧ cb ≤ ct)) :
    Calls Ybaf.prog 15 #[.pointer (some ⟨c, 0, none⟩), .agg #[.int .i64 proc, .slice (some ⟨g1, o1, none⟩) n ca, .slice (some ⟨g2, o2, none⟩) n cb'], .int .i64 k] w fun e w' => Err e ∧ Below w.heap.size w w' := by
  have hs := hk.small
  have lc : c < w.heap.size := World.block_lt_of_cell? _ _ hk.c0
  have ll : lb < w.heap.size := World.block_lt_of_cell? _ _ hk.l0
  have lg1 : g1 < w.heap.size := World.block_lt_of_cell? _ _ hp
  have lg2 : g2 < w.heap.size := World.block_lt_of_cell? _ _ hc
  have lkn : k < ss.length := by rw [hk.len]; exact hkn
  have ln : nb < w.heap.size := World.block_lt_of_cell? _ _ (hk.name k lkn)
  have c0 := hk.c0
  have c4 := hk.c4
  have c5 := hk.c5
  have l0 := hk.l0
  have nm := hk.name k lkn
  generalize ss[k] = s at nm
  have hkn' : (k : Int) < (n : Int) := by omega
  have HF : Hid (F.answers w.tape) := hF
  clear hk hF
  rcases hbad with h1 | ⟨h0, h1⟩ | ⟨h0, h1, h2⟩ | ⟨h0, h1, h2, h3⟩
  all_goals
    go_enter Ybaf.func15, Ybaf.ntmps15
    go_wp2
    go_quiet (fail)
    go_wp2_with fail
    go_region_held (fun w' => w'.cell? ⟨c, 0, none⟩ = some (.pointer (some ⟨lb, 0, none⟩)) ∧ w'.cell? ⟨c, 4, none⟩ = some (.int .i64 pb) ∧ w'.cell? ⟨c, 5, none⟩ = some (.int .i64 cb)) (go_keep) (first | (go_at_call 19; go_must (refine (name_any lb nb cp n k s _ (by go_simp) hkn hs (by go_simp)).mono ?_); rintro e w' ⟨rfl, rfl⟩) | (go_at_call 17; go_must (refine (errorfF3 F _ 5 ph ct pb cb s _ (by exact HF.out) (by go_simp) (by go_simp) (by go_simp) (by go_simp) (by go_simp)).mono ?_); rintro e w' ⟨rfl, hb⟩; have k0 : w'.cell? ⟨c, 0, none⟩ = some (.pointer (some ⟨lb, 0, none⟩)) := cell_later hb (by go_simp); have k4 : w'.cell? ⟨c, 4, none⟩ = some (.int .i64 pb) := cell_later hb (by go_simp); have k5 : w'.cell? ⟨c, 5, none⟩ = some (.int .i64 cb) := cell_later hb (by go_simp)))
    go_wp2
    go_ret
    exact ⟨⟨_, rfl⟩, ((bel_drewN ((Below.refl _ w).alloc (Nat.le_refl _) _) (nq + 1)).alloc (by simp) _).trans (hb.mono (by simp; omega))⟩
end Go.Proofs.YbulkoksFmt
