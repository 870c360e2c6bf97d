import Derived.Test.YbulkojqWalks1
set_option linter.unusedVariables false
namespace Go.Proofs.Ybulkojq
open Go.RowKit

theorem info34 : (Yba.prog.info? 34).map (fun i => (i.zero, i.size, i.bytes)) = some (some (.pointer none), 1, 8) := by kernel_rfl

theorem grown_cell {w w' : World} {p : Addr} {v : Value} (h : w.grownBy w' none) (hc : w.cell? p = some v) : w'.cell? p = some v := by
  have hlt := World.block_lt_of_cell? _ _ hc
  rw [World.cell?_of_block (h.block p.block hlt (by simp))]
  exact hc

theorem grown_frozen {w w' : World} {p : Addr} (h : w.grownBy w' none) (hlt : p.block < w.heap.size) : w'.frozen? p = w.frozen? p :=
  World.frozen?_of_block (h.block p.block hlt (by simp))

theorem sc_same {w : World} {a : Addr} {v u : Value} (h : w.cell? a = some u) : (w.setCell a v).cell? a = some v :=
  World.cell?_setCell_same' w a v (by rw [h]; rfl)

theorem sc_far {w : World} {a p : Addr} {v : Value} (h : a.block ≠ p.block) : (w.setCell a v).cell? p = w.cell? p :=
  World.cell?_of_block (Below.heap_setCell _ _ _ _ (fun e => h e.symm))

theorem bel_drewN {B : Nat} {a w : World} (h : Below B a w) (m : Nat) : Below B a (w.drewN m) := ⟨h.os, h.tape, h.output, h.size, h.block⟩

set_option maxHeartbeats 1000000 in
/-- 'hang' of the only open leaf. -/
theorem hang_first (b : Nat) (high held : Int) (a : Option Addr) (n : Nat) (w : World) (hn : n ≤ 1024) (hh : 0 ≤ high) (hh2 : high < 18446744073709551616)
    (c0 : w.cell? ⟨b, 0, none⟩ = some (.int .u64 high)) (c1 : w.cell? ⟨b, 1, none⟩ = some (.int .u64 held)) (c2 : w.cell? ⟨b, 2, none⟩ = some (.slice a n n))
    (c4 : w.cell? ⟨b, 4, none⟩ = some (.int .u64 0)) (c5 : w.cell? ⟨b, 5, none⟩ = some (.int .u64 0)) (c6 : w.cell? ⟨b, 6, none⟩ = some (.slice none 0 0)) (c7 : w.cell? ⟨b, 7, none⟩ = some (.slice none 0 0))
    (c44 : w.cell? ⟨b, 44, none⟩ = some (.int .i64 1)) (c45 : w.cell? ⟨b, 45, none⟩ = some (.bool false)) (hf : ∀ o, w.frozen? ⟨b, o, none⟩ = false) (hb : b < w.heap.size)
    (X : Int) (hsh : Op.shift .shl .u64 1 .u64 (bits .and .u64 high 63) = pure (.int .u64 X)) (hor : bits .or .u64 0 X = X) :
    Calls Yba.prog 8 #[.pointer (some ⟨b, 0, none⟩), .int .i64 0] w fun e w' => e = .returned (.tuple #[]) ∧ ∃ g cp nb, Below b w w' ∧ w'.cell? ⟨b, 44, none⟩ = some (.int .i64 2) ∧ w'.cell? ⟨b, 45, none⟩ = some (.bool ((n : Int) == 64)) ∧
      w'.cell? ⟨b, 4, none⟩ = some (.int .u64 (high / 64)) ∧ w'.cell? ⟨b, 5, none⟩ = some (.int .u64 X) ∧ w'.cell? ⟨b, 6, none⟩ = some (.slice none 0 0) ∧ w'.cell? ⟨b, 7, none⟩ = some (.slice (some ⟨g, 0, none⟩) 1 cp) ∧
      w'.cell? ⟨g, 0, none⟩ = some (.pointer (some ⟨nb, 0, none⟩)) ∧ w'.cell? ⟨nb, 0, none⟩ = some (.int .u64 held) ∧ w'.cell? ⟨nb, 1, none⟩ = some (.slice a n n) ∧ w'.cell? ⟨nb, 2, none⟩ = some (.slice none 0 0) := by
  obtain ⟨i, hi, hz0, hz1, hz2⟩ := info_parts info34
  go_enter Yba.func8, Yba.ntmps8
  go_wp2_with (first | (go_at_call 11; go_must (refine (node0_clip _ 0 n n a held _ (by go_simp) (by go_simp) (by go_simp) (Nat.le_refl _) (by unfold maxLen; omega) (.inl (Nat.le_refl _))).mono ?_); rintro e w' ⟨rfl, m, rfl⟩) | (at_builtin; go_must (refine wpList_append_own_at _ rfl (.tmp 107) (.tmp 109) 25 rfl (w.heap.size + 1) 34 i (.pointer none) 1 8 Yba.underlying25 hi hz0 hz1 hz2 rfl (by omega) (.slice none 0 0) 0 [] rfl (World.ownsRow_nil _ _ _ _) ⟨w.heap.size + 1, 0, none⟩ 1 1 [.pointer (some ⟨w.heap.size, 0, none⟩)] rfl rfl ?c1 (by intro u hu; simp at hu; subst hu; rfl) (by unfold maxLen; omega) (by omega) ?c2 ?_)))
  case c1 =>
    intro j u hj
    match j, hj with
    | 0, hj =>
      simp at hj
      subst hj
      go_simp
  case c2 => go_simp
  intro v5 w5 hown hgr hnil hat
  have hgr' := hgr
  simp only [Value.ownBlock] at hgr'
  have f7 : w5.frozen? ⟨b, 7, none⟩ = false := by rw [grown_frozen hgr' (by go_simp)]; go_simp
  have d4 : w5.cell? ⟨b, 4, none⟩ = some (.int .u64 (high / 64)) := grown_cell hgr' (by go_simp)
  have d5 : w5.cell? ⟨b, 5, none⟩ = some (.int .u64 X) := grown_cell hgr' (by go_simp; exact sc_same (u := .int .u64 0) (by go_simp))
  have d6 : w5.cell? ⟨b, 6, none⟩ = some (.slice none 0 0) := grown_cell hgr' (by go_simp)
  have d7 : w5.cell? ⟨b, 7, none⟩ = some (.slice none 0 0) := grown_cell hgr' (by go_simp)
  have d44 : w5.cell? ⟨b, 44, none⟩ = some (.int .i64 2) := grown_cell hgr' (by go_simp)
  have d45 : w5.cell? ⟨b, 45, none⟩ = some (.bool ((n : Int) == 64)) := grown_cell hgr' (by go_simp)
  have e0 : w5.cell? ⟨w.heap.size, 0, none⟩ = some (.int .u64 held) := grown_cell hgr' (by go_simp)
  have e1 : w5.cell? ⟨w.heap.size, 1, none⟩ = some (.slice a n n) := grown_cell hgr' (by go_simp)
  have e2 : w5.cell? ⟨w.heap.size, 2, none⟩ = some (.slice none 0 0) := grown_cell hgr' (by go_simp)
  have hbel : Below b w w5 := by
    refine Below.grown ?_ hgr' (by go_simp; omega) (fun k hk => by cases hk)
    refine Below.alloc (Below.alloc ?_ (by go_simp; omega) _) (by go_simp; omega) _
    exact ((((((bel_drewN ((Below.refl b w).setCell (p := ⟨b, 45, none⟩) (Nat.le_refl _) _) m).setCell (p := ⟨b, 2, none⟩) (Nat.le_refl _) _).setCell (p := ⟨b, 4, none⟩) (Nat.le_refl _) _).setCell (p := ⟨b, 5, none⟩) (Nat.le_refl _) _).setCell (p := ⟨b, 6, none⟩) (Nat.le_refl _) _).setCell (p := ⟨b, 7, none⟩) (Nat.le_refl _) _).setCell (p := ⟨b, 44, none⟩) (Nat.le_refl _) _ |>.setCell (p := ⟨b, 5, none⟩) (Nat.le_refl _) _
  obtain ⟨g, cp, rfl, hg, hcg⟩ : ∃ g cp, v5 = .slice (some ⟨g, 0, none⟩) 1 cp ∧ w.heap.size + 1 ≤ g ∧ w5.cell? ⟨g, 0, none⟩ = some (.pointer (some ⟨w.heap.size, 0, none⟩)) := by
    obtain ⟨hl, ⟨rfl, h0⟩ | ⟨g, cap, cur, rfl, hg, hh, hnc, hm, hcs, htk⟩⟩ := hown
    · cases h0
    refine ⟨g, cap, rfl, hg, ?_⟩
    have e : cur[0]? = some (.pointer (some ⟨w.heap.size, 0, none⟩)) := by
      have := congrArg (fun l => l[0]?) htk
      simpa using this
    simp [World.cell?, hh, e]
  clear hgr hgr' hown hnil hat c0 c1 c2 c4 c5 c6 c7 c44 c45 hf
  go_wp2
  go_end0
  refine ⟨rfl, g, cp, w.heap.size, hbel.setCell (Nat.le_refl _) _, ?_, ?_, ?_, ?_, ?_, ?_, ?_, ?_, ?_, ?_⟩
  · go_simp
  · go_simp
  · go_simp
  · go_simp
  · go_simp
  · go_simp
  · rw [sc_far (a := ⟨b, 7, none⟩) (p := ⟨g, 0, none⟩) (show b ≠ g by omega)]; exact hcg
  · rw [sc_far (a := ⟨b, 7, none⟩) (p := ⟨w.heap.size, 0, none⟩) (show b ≠ w.heap.size by omega)]; exact e0
  · rw [sc_far (a := ⟨b, 7, none⟩) (p := ⟨w.heap.size, 1, none⟩) (show b ≠ w.heap.size by omega)]; exact e1
  · rw [sc_far (a := ⟨b, 7, none⟩) (p := ⟨w.heap.size, 2, none⟩) (show b ≠ w.heap.size by omega)]; exact e2
end Go.Proofs.Ybulkojq
