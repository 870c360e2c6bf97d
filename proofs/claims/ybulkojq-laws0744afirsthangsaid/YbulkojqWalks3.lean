import Derived.Test.YbulkojqWalks2
import Derived.Deep.LoopGhost
set_option linter.unusedVariables false
namespace Go.Proofs.Ybulkojq
open Go.RowKit

set_option maxHeartbeats 400000 in
theorem fh_big (v0 v1 : Value) (a : Option Addr) (n c : Nat) (w : World) (hn : 1024 < n) :
    Calls Yba.prog 4 #[v0, v1, .slice a n c] w fun e w' => e = .returned (.bool true) ∧ w' = w := by
  go_enter Yba.func4, Yba.ntmps4
  go_wp2
  go_ret
  exact ⟨rfl, rfl⟩

theorem neq42 (W : World) (a : Option Addr) (l c : Nat) : (binOp .neq 42 (.slice a l c) (.slice none 0 0)).run Yba.prog W = .ok (.bool (!a.isNone)) W := run_neq_slice_nil_any W 42 2 a l c 0 0 Yba.underlying42

set_option maxHeartbeats 1000000 in
theorem fh_nil (high held : Int) (w : World) (hh : 0 ≤ high) (hh2 : high < 18446744073709551616)
    (X : Int) (hsh : Op.shift .shl .u64 1 .u64 (bits .and .u64 high 63) = pure (.int .u64 X)) (hor : bits .or .u64 0 X = X) :
    Calls Yba.prog 4 #[.int .u64 high, .int .u64 held, .slice none 0 0] w fun e w' => e = .returned (.bool true) ∧ Below w.heap.size w w' := by
  have hnq := neq42
  have HS : Hid (bits .or .u64 0 X = X) := hor
  clear hor
  go_enter Yba.func4, Yba.ntmps4
  go_wp2_with (go_at_call 8; go_must (refine (hang_first _ high held none 0 _ (by omega) hh hh2 (by go_simp) (by go_simp) (by go_simp) (by go_simp) (by go_simp) (by go_simp) (by go_simp) (by go_simp) (by go_simp) (by intro o; go_simp) (by go_simp) X hsh HS.out).mono ?_); rintro e w2 ⟨rfl, g, cp, nb, hbel, d44, d45, d4, d5, d6, d7, dg, n0, n1, n2⟩; have lg : g < w2.heap.size := World.block_lt_of_cell? _ _ dg; have ln : nb < w2.heap.size := World.block_lt_of_cell? _ _ n0; have BB : Hid (Below w.heap.size w w2) := ((Below.refl _ _).alloc (Nat.le_refl _) _).trans hbel; clear hbel)
  refine wp_loop_rounds 1 ?_
  rw [rounds_succ]
  go_wp2
  go_ret
  exact ⟨rfl, BB.out.alloc BB.out.size _⟩

/-- The row in block g: its first k numbers are zs's, n in all. -/
def RowV (w : World) (g n k : Nat) (zs : List Int) : Prop :=
  ∃ cur, w.heap[g]? = some (.cells cur 33 (0, 0)) ∧ cur.size = n ∧ ∀ j, j < k → cur[j]? = some (.int .i64 (zs.getD j 0))

theorem RowV.cell {w : World} {g n k j : Nat} {zs : List Int} (h : RowV w g n k zs) (hj : j < k) : w.cell? ⟨g, j, none⟩ = some (.int .i64 (zs.getD j 0)) := by
  obtain ⟨cur, h1, h2, h3⟩ := h
  simp [World.cell?, h1, h3 j hj]

theorem RowV.any {w : World} {g n k j : Nat} {zs : List Int} (h : RowV w g n k zs) (hj : j < n) : ∃ u, w.cell? ⟨g, j, none⟩ = some u := by
  obtain ⟨cur, h1, h2, h3⟩ := h
  refine ⟨cur[j], ?_⟩
  simp [World.cell?, h1, h2, hj]

theorem RowV.froz {w : World} {g n k j : Nat} {zs : List Int} (h : RowV w g n k zs) : w.frozen? ⟨g, j, none⟩ = false := by
  obtain ⟨cur, h1, h2, h3⟩ := h
  simp [World.frozen?, h1]

theorem RowV.step {w : World} {g n k : Nat} {zs : List Int} (h : RowV w g n k zs) (hk : k < n) : RowV (w.setCell ⟨g, k, none⟩ (.int .i64 (zs.getD k 0))) g n (k + 1) zs := by
  obtain ⟨cur, h1, h2, h3⟩ := h
  refine ⟨cur.setIfInBounds k (.int .i64 (zs.getD k 0)), ?_, by simpa using h2, ?_⟩
  · simp [World.setCell, Array.getElem?_modify, h1]
  · intro j hj
    rw [Array.getElem?_setIfInBounds]
    by_cases e : k = j
    · subst e; simp; omega
    · rw [if_neg e]; exact h3 j (by omega)

theorem info33 : (Yba.prog.info? 33).map (fun i => (i.zero, i.size, i.bytes)) = some (some (.int .i64 0), 1, 8) := by kernel_rfl

theorem rowV_made {w : World} {g n : Nat} {xs : List Value} {zs : List Int} (h : w.ownsRow g 33 1 (.slice (some ⟨g, 0, none⟩) n n) n xs) : RowV w g n 0 zs := by
  obtain ⟨hl, ⟨h0, _⟩ | ⟨g', cap, cur, h0, hg, hh, hnc, hm, hcs, htk⟩⟩ := h
  · cases h0
  · cases h0
    exact ⟨cur, hh, by omega, fun j hj => by omega⟩

theorem RowV.later {w w' : World} {B g n k : Nat} {zs : List Int} (h : RowV w g n k zs) (hb : Below B w w') (hg : g < B) : RowV w' g n k zs := by
  obtain ⟨cur, h1, h2, h3⟩ := h
  exact ⟨cur, by rw [hb.block g hg]; exact h1, h2, h3⟩

set_option maxHeartbeats 2000000 in
set_option maxRecDepth 100000 in
theorem fh_some (high held : Int) (x : Addr) (n c : Nat) (zs : List Int) (w : World) (hh : 0 ≤ high) (hh2 : high < 18446744073709551616) (hn : n ≤ 1024) (hz : n ≤ zs.length)
    (hx : ∀ j, j < zs.length → w.cell? (x.add j) = some (.int .i64 (zs.getD j 0)))
    (X : Int) (hsh : Op.shift .shl .u64 1 .u64 (bits .and .u64 high 63) = pure (.int .u64 X)) (hor : bits .or .u64 0 X = X) :
    Calls Yba.prog 4 #[.int .u64 high, .int .u64 held, .slice (some x) n c] w fun e w' => e = .returned (.bool true) ∧ Below w.heap.size w w' := by
  obtain ⟨i, hi, hz0, hz1, hz2⟩ := info_parts info33
  have hnq := neq42
  have HS : Hid (bits .or .u64 0 X = X) := hor
  have HX : Hid (∀ j, j < zs.length → w.cell? (x.add j) = some (.int .i64 (zs.getD j 0))) := hx
  clear hor hx
  go_enter Yba.func4, Yba.ntmps4
  go_wp2_with (at_make; go_must (refine wpList_make_full _ rfl _ _ 24 rfl w.heap.size 33 i (.int .i64 0) 1 Yba.underlying24 hi hz0 hz1 _ _ _ _ n rfl rfl (by omega) (by omega) (by rw [hz2]; omega) (by unfold maxLen; omega) (Nat.le_refl _) ?_))
  intro w1 hown1 hgr1
  have R1 : Hid (RowV w1 w.heap.size n 0 zs) := Hid.mk (rowV_made hown1)
  have B1 : Hid (Below w.heap.size w w1) := (Below.refl _ w).grown hgr1 (Nat.le_refl _) (fun k hk => by cases hk)
  clear hown1 hgr1
  go_wp2
  go_loopw [8] (fun i wr => ∃ k : Nat, k ≤ n ∧ i = .int .i64 k ∧ RowV wr w.heap.size n k zs ∧ Below w.heap.size w wr) (fun i _ => n - (intOf i).toNat)
  case atStart => exact ⟨0, Nat.zero_le _, rfl, R1.out, B1.out⟩
  case round =>
    obtain ⟨k, hk, rfl, hR, hB⟩ := hrel
    have HB : Hid (Below w.heap.size w wr) := hB
    have HR : Hid (RowV wr w.heap.size n k zs) := hR
    clear hB hR R1 B1
    by_cases hlt : k < n
    · have hc : wr.cell? (x.add k) = some (.int .i64 (zs.getD k 0)) := cell_later HB.out (HX.out k (by omega))
      obtain ⟨u, hu⟩ := HR.out.any hlt
      have hfz : wr.frozen? ⟨w.heap.size, k, none⟩ = false := HR.out.froz
      generalize hv : zs.getD k 0 = v at hc
      have HV : Hid (zs.getD k 0 = v) := hv
      clear hv
      go_wp2
      go_roundw
      case rel => exact ⟨k + 1, by omega, by go_num, (by rw [← HV.out]; exact HR.out.step hlt), HB.out.setCell (Nat.le_refl _) _⟩
      case measure => simp [intOf]; omega
    · obtain rfl : k = n := by omega
      have hsz : w.heap.size < wr.heap.size := by
        obtain ⟨cur, h1, _⟩ := HR.out
        exact (Array.getElem?_eq_some_iff.1 h1).1
      go_wp2_with (go_at_call 8; go_must (refine (hang_first _ high held (some ⟨w.heap.size, 0, none⟩) k _ hn hh hh2 (by go_simp) (by go_simp) (by go_simp) (by go_simp) (by go_simp) (by go_simp) (by go_simp) (by go_simp) (by go_simp) (by intro o; go_simp) (by go_simp) X hsh HS.out).mono ?_); rintro e w2 ⟨rfl, g, cp, nb, hbel, d44, d45, d4, d5, d6, d7, dg, n0, n1, n2⟩; have lg : g < w2.heap.size := World.block_lt_of_cell? _ _ dg; have ln : nb < w2.heap.size := World.block_lt_of_cell? _ _ n0; have BB : Hid (Below wr.heap.size wr w2) := ((Below.refl _ _).alloc (Nat.le_refl _) _).trans hbel; clear hbel)
      have R2 : Hid (RowV w2 w.heap.size k k zs) := Hid.mk (HR.out.later BB.out hsz)
      have B2 : Hid (Below w.heap.size w w2) := Hid.mk (HB.out.trans (BB.out.mono (by omega)))
      have h2 : w.heap.size < w2.heap.size := Nat.lt_of_lt_of_le hsz BB.out.size
      go_loopw [12] (fun i wq => ∃ q : Nat, q ≤ k ∧ i = .int .i64 q ∧ RowV wq w.heap.size k k zs ∧ Below w.heap.size w wq ∧ wq.cell? ⟨nb, 1, none⟩ = some (.slice (some ⟨w.heap.size, 0, none⟩) k k)) (fun i _ => k - (intOf i).toNat)
      case atStart => exact ⟨0, Nat.zero_le _, rfl, R2.out.later ((Below.refl w2.heap.size w2).alloc (Nat.le_refl _) _) h2, B2.out.alloc (by omega) _, by go_simp⟩
      case round =>
        obtain ⟨q, hq, rfl, hR, hB, hcn⟩ := hrel
        have GB : Hid (Below w.heap.size w wr) := hB
        have GR : Hid (RowV wr w.heap.size k k zs) := hR
        clear hB hR d44 d45 d4 d5 d6 d7 dg n0 n1 n2 lg ln BB R2 B2 h2 HB HR
        by_cases hqk : q < k
        · have hc : wr.cell? (x.add q) = some (.int .i64 (zs.getD q 0)) := cell_later GB.out (HX.out q (by omega))
          have hv := GR.out.cell hqk
          generalize hv : zs.getD q 0 = v at hc hv
          have hqk' : (q : Int) < (k : Int) := by omega
          go_wp2
          go_quiet (fail)
          go_wp2
          go_roundw
          case rel => exact ⟨q + 1, by omega, by go_num, GR.out, bel_drewN GB.out _, hcn⟩
          case measure => simp [intOf]; omega
        · go_wp2
          go_ret
          exact ⟨rfl, GB.out⟩
end Go.Proofs.Ybulkojq
