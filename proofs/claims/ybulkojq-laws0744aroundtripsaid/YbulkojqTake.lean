import Derived.Test.YbulkojqTrie
set_option linter.unusedVariables false
set_option linter.unusedSimpArgs false
namespace Go.Proofs.Ybulkojq
open Go.RowKit

theorem inf33 : (Yba.prog.info? 33).map (fun i => (i.zero, i.size, i.bytes)) = some (some (.int .i64 0), 1, 8) := by kernel_rfl

theorem eql24 (W : World) (a : Option Addr) (l c : Nat) : (binOp .eql 24 (.slice a l c) (.slice none 0 0)).run Yba.prog W = .ok (.bool a.isNone) W := by
  simp only [binOp]
  simp [Op.equal, Op.maxDepth, Lib.run_equalIn_slice_nil W 9999 24 33 a l c 0 0 Yba.underlying24]
theorem eql25 (W : World) (a : Option Addr) (l c : Nat) : (binOp .eql 25 (.slice a l c) (.slice none 0 0)).run Yba.prog W = .ok (.bool a.isNone) W := by
  simp only [binOp]
  simp [Op.equal, Op.maxDepth, Lib.run_equalIn_slice_nil W 9999 25 34 a l c 0 0 Yba.underlying25]

theorem add0 (g j : Nat) : (⟨g, 0, none⟩ : Addr).add j = ⟨g, j, none⟩ := by
  simp [Addr.add]
  intro h
  exact h.symm

set_option maxHeartbeats 400000 in
/-- 'slices.Clone' of values. -/
theorem clone_v (g n c : Nat) (xs : List Value) (w : World) (hx : ∀ j u, xs[j]? = some u → w.cell? ⟨g, j, none⟩ = some u) (hl : xs.length = n) (hn : 0 < n) (hn2 : n ≤ 1024) (h1 : ∀ u ∈ xs, u.oneCell' = true) :
    Calls Yba.prog 17 #[.slice (some ⟨g, 0, none⟩) n c] w fun e w' => ∃ g' c', e = .returned (.slice (some ⟨g', 0, none⟩) n c') ∧ w.grownBy w' none ∧ w.heap.size ≤ g' ∧ g' < w'.heap.size ∧ ∀ j u, xs[j]? = some u → w'.cell? ⟨g', j, none⟩ = some u := by
  obtain ⟨i, hi, hz0, hz1, hz2⟩ := info_parts inf33
  have HX := Hid.mk hx
  clear hx
  have heq := eql24
  go_enter Yba.func17, Yba.ntmps17
  go_wp2_with (at_builtin; go_must (refine wpList_append_own_at _ rfl (.tmp 5) (.tmp 6) 24 rfl w.heap.size 33 i (.int .i64 0) 1 8 Yba.underlying24 hi hz0 hz1 hz2 rfl (by omega) (.slice (some ⟨w.heap.size, 0, none⟩) 0 0) 0 [] rfl ?a1 ⟨g, 0, none⟩ n c xs rfl (by omega) ?a2 h1 (by unfold maxLen; omega) (by omega) ?a3 ?_))
  case a1 => exact ⟨rfl, .inr ⟨w.heap.size, 0, #[], rfl, Nat.le_refl _, heap_alloc_new w _, Nat.le_refl _, by unfold maxLen; omega, rfl, rfl⟩⟩
  case a2 =>
    intro j u hu
    rw [add0]
    have := HX.out j u hu
    have hb := World.block_lt_of_cell? _ _ this
    rw [World.cell?_alloc_lt _ _ _ hb]
    exact this
  case a3 => go_simp
  intro v' w1 hown hgr hnil hat
  go_wp2
  go_ret
  obtain ⟨hl', ⟨rfl, h0⟩ | ⟨g', cap, cur, rfl, hg, hh, hnc, hm, hcs, htk⟩⟩ := hown
  · omega
  have hc := World.ownsRow.cells (w := w1) (base := w.heap.size) (e := 33) (size := 1) (v := .slice (some ⟨g', 0, none⟩) n cap) (n := n) (xs := xs) ⟨hl', .inr ⟨g', cap, cur, rfl, hg, hh, hnc, hm, hcs, htk⟩⟩ (g := g') rfl
  refine ⟨g', cap, rfl, ?_, hg, (Array.getElem?_eq_some_iff.1 hh).1, fun j u hu => by rw [← add0]; exact hc j u hu⟩
  have a := World.grownBy_alloc w (.cells #[] 33) none
  refine ⟨hgr.os.trans a.os, hgr.tape.trans a.tape, hgr.output.trans a.output, Nat.le_trans a.size hgr.size, fun k hk _ => ?_⟩
  rw [hgr.block k (by simp; omega) (by simp [Value.ownBlock]; omega)]
  exact a.block k hk (by simp)

set_option maxHeartbeats 400000 in
/-- 'slices.Clone' of children. -/
theorem clone_c (g n c : Nat) (xs : List Value) (w : World) (hx : ∀ j u, xs[j]? = some u → w.cell? ⟨g, j, none⟩ = some u) (hl : xs.length = n) (hn : 0 < n) (hn2 : n ≤ 1024) (h1 : ∀ u ∈ xs, u.oneCell' = true) :
    Calls Yba.prog 15 #[.slice (some ⟨g, 0, none⟩) n c] w fun e w' => ∃ g' c', e = .returned (.slice (some ⟨g', 0, none⟩) n c') ∧ w.grownBy w' none ∧ w.heap.size ≤ g' ∧ g' < w'.heap.size ∧ ∀ j u, xs[j]? = some u → w'.cell? ⟨g', j, none⟩ = some u := by
  obtain ⟨i, hi, hz0, hz1, hz2⟩ := info_parts info34
  have HX := Hid.mk hx
  clear hx
  have heq := eql25
  go_enter Yba.func15, Yba.ntmps15
  go_wp2_with (at_builtin; go_must (refine wpList_append_own_at _ rfl (.tmp 5) (.tmp 6) 25 rfl w.heap.size 34 i (.pointer none) 1 8 Yba.underlying25 hi hz0 hz1 hz2 rfl (by omega) (.slice (some ⟨w.heap.size, 0, none⟩) 0 0) 0 [] rfl ?a1 ⟨g, 0, none⟩ n c xs rfl (by omega) ?a2 h1 (by unfold maxLen; omega) (by omega) ?a3 ?_))
  case a1 => exact ⟨rfl, .inr ⟨w.heap.size, 0, #[], rfl, Nat.le_refl _, heap_alloc_new w _, Nat.le_refl _, by unfold maxLen; omega, rfl, rfl⟩⟩
  case a2 =>
    intro j u hu
    rw [add0]
    have := HX.out j u hu
    have hb := World.block_lt_of_cell? _ _ this
    rw [World.cell?_alloc_lt _ _ _ hb]
    exact this
  case a3 => go_simp
  intro v' w1 hown hgr hnil hat
  go_wp2
  go_ret
  obtain ⟨hl', ⟨rfl, h0⟩ | ⟨g', cap, cur, rfl, hg, hh, hnc, hm, hcs, htk⟩⟩ := hown
  · omega
  have hc := World.ownsRow.cells (w := w1) (base := w.heap.size) (e := 34) (size := 1) (v := .slice (some ⟨g', 0, none⟩) n cap) (n := n) (xs := xs) ⟨hl', .inr ⟨g', cap, cur, rfl, hg, hh, hnc, hm, hcs, htk⟩⟩ (g := g') rfl
  refine ⟨g', cap, rfl, ?_, hg, (Array.getElem?_eq_some_iff.1 hh).1, fun j u hu => by rw [← add0]; exact hc j u hu⟩
  have a := World.grownBy_alloc w (.cells #[] 34) none
  refine ⟨hgr.os.trans a.os, hgr.tape.trans a.tape, hgr.output.trans a.output, Nat.le_trans a.size hgr.size, fun k hk _ => ?_⟩
  rw [hgr.block k (by simp; omega) (by simp [Value.ownBlock]; omega)]
  exact a.block k hk (by simp)

/-- What 'takeRoom' does: it hands on the row itself, or a copy. -/
def Took (w w' : World) (b o g n : Nat) (xs : List Value) (v : Value) : Prop :=
  (v = .slice (some ⟨g, 0, none⟩) n n ∧ ∃ m, w' = (w.drewN m).setCell ⟨b, o, none⟩ (.slice none 0 0)) ∨
  (∃ g' c', v = .slice (some ⟨g', 0, none⟩) n c' ∧ w.grownBy w' none ∧ w.heap.size ≤ g' ∧ g' < w'.heap.size ∧ ∀ j u, xs[j]? = some u → w'.cell? ⟨g', j, none⟩ = some u)

theorem Took.drew {w w' : World} {b o g n m : Nat} {xs : List Value} {v : Value} (h : Took (w.drewN m) w' b o g n xs v) : Took w w' b o g n xs v := by
  rcases h with ⟨h1, m', h2⟩ | ⟨g', c', h1, h2, h3, h4, h5⟩
  · exact .inl ⟨h1, m + m', by rw [h2]; simp⟩
  · exact .inr ⟨g', c', h1, ⟨h2.os, h2.tape, h2.output, h2.size, h2.block⟩, h3, h4, h5⟩

set_option maxHeartbeats 400000 in
theorem room_v (b o g n c : Nat) (xs : List Value) (w : World) (hc : w.cell? ⟨b, o, none⟩ = some (.slice (some ⟨g, 0, none⟩) n c)) (hf : w.frozen? ⟨b, o, none⟩ = false) (hnc : n ≤ c) (hm : c ≤ maxLen)
    (hx : ∀ j u, xs[j]? = some u → w.cell? ⟨g, j, none⟩ = some u) (hl : xs.length = n) (hn : 0 < n) (h1 : ∀ u ∈ xs, u.oneCell' = true) :
    Calls Yba.prog 14 #[.pointer (some ⟨b, o, none⟩)] w fun e w' => ∃ v, e = .returned v ∧ Took w w' b o g n xs v := by
  by_cases hcl : c ≤ n ∨ 64 ≤ n
  · refine (room_v_clip b o n c _ w hc hf hnc hm hcl).mono ?_
    rintro e w' ⟨rfl, m, rfl⟩
    exact ⟨_, rfl, .inl ⟨rfl, m, rfl⟩⟩
  · unfold maxLen at hm
    have hlt' : (n : Int) < (c : Int) := by omega
    have h64' : decide ((n : Int) < 64) = true := by simp; omega
    have HC : Hid (∀ W : World, (∀ j u, xs[j]? = some u → W.cell? ⟨g, j, none⟩ = some u) → Calls Yba.prog 17 #[.slice (some ⟨g, 0, none⟩) n c] W fun e w' => ∃ g' c', e = .returned (.slice (some ⟨g', 0, none⟩) n c') ∧ W.grownBy w' none ∧ W.heap.size ≤ g' ∧ g' < w'.heap.size ∧ ∀ j u, xs[j]? = some u → w'.cell? ⟨g', j, none⟩ = some u) :=
      Hid.mk (fun W hW => clone_v g n c xs W hW hl hn (by omega) h1)
    have HX := Hid.mk hx
    clear hx h1 hl
    go_enter Yba.func14, Yba.ntmps14
    go_wp2
    go_quiet (fail)
    go_wp2_with (go_at_call 17; go_must (refine (HC.out (w.drewN _) (fun j u hu => (HX.out j u hu : w.cell? _ = some u))).mono ?_); rintro e w' ⟨g', c', rfl, k1, k2, k3, k4⟩)
    go_ret
    exact ⟨_, rfl, .inr ⟨g', c', rfl, ⟨k1.os, k1.tape, k1.output, k1.size, k1.block⟩, k2, k3, k4⟩⟩

set_option maxHeartbeats 400000 in
theorem room_c (b o g n c : Nat) (xs : List Value) (w : World) (hc : w.cell? ⟨b, o, none⟩ = some (.slice (some ⟨g, 0, none⟩) n c)) (hf : w.frozen? ⟨b, o, none⟩ = false) (hnc : n ≤ c) (hm : c ≤ maxLen)
    (hx : ∀ j u, xs[j]? = some u → w.cell? ⟨g, j, none⟩ = some u) (hl : xs.length = n) (hn : 0 < n) (h1 : ∀ u ∈ xs, u.oneCell' = true) :
    Calls Yba.prog 13 #[.pointer (some ⟨b, o, none⟩)] w fun e w' => ∃ v, e = .returned v ∧ Took w w' b o g n xs v := by
  by_cases hcl : c ≤ n ∨ 64 ≤ n
  · refine (room_c_clip b o n c _ w hc hf hnc hm hcl).mono ?_
    rintro e w' ⟨rfl, m, rfl⟩
    exact ⟨_, rfl, .inl ⟨rfl, m, rfl⟩⟩
  · unfold maxLen at hm
    have hlt' : (n : Int) < (c : Int) := by omega
    have h64' : decide ((n : Int) < 64) = true := by simp; omega
    have HC : Hid (∀ W : World, (∀ j u, xs[j]? = some u → W.cell? ⟨g, j, none⟩ = some u) → Calls Yba.prog 15 #[.slice (some ⟨g, 0, none⟩) n c] W fun e w' => ∃ g' c', e = .returned (.slice (some ⟨g', 0, none⟩) n c') ∧ W.grownBy w' none ∧ W.heap.size ≤ g' ∧ g' < w'.heap.size ∧ ∀ j u, xs[j]? = some u → w'.cell? ⟨g', j, none⟩ = some u) :=
      Hid.mk (fun W hW => clone_c g n c xs W hW hl hn (by omega) h1)
    have HX := Hid.mk hx
    clear hx h1 hl
    go_enter Yba.func13, Yba.ntmps13
    go_wp2
    go_quiet (fail)
    go_wp2_with (go_at_call 15; go_must (refine (HC.out (w.drewN _) (fun j u hu => (HX.out j u hu : w.cell? _ = some u))).mono ?_); rintro e w' ⟨g', c', rfl, k1, k2, k3, k4⟩)
    go_ret
    exact ⟨_, rfl, .inr ⟨g', c', rfl, ⟨k1.os, k1.tape, k1.output, k1.size, k1.block⟩, k2, k3, k4⟩⟩

set_option maxHeartbeats 800000 in
/-- 'node' of a leaf. -/
theorem node_v (b g n c : Nat) (held : Int) (xs : List Value) (w : World) (hh : w.cell? ⟨b, 1, none⟩ = some (.int .u64 held)) (hc : w.cell? ⟨b, 2, none⟩ = some (.slice (some ⟨g, 0, none⟩) n c)) (hf : w.frozen? ⟨b, 2, none⟩ = false) (hnc : n ≤ c) (hm : c ≤ maxLen)
    (hx : ∀ j u, xs[j]? = some u → w.cell? ⟨g, j, none⟩ = some u) (hl : xs.length = n) (hn : 0 < n) (h1 : ∀ u ∈ xs, u.oneCell' = true) (hbb : b < w.heap.size) :
    Calls Yba.prog 11 #[.pointer (some ⟨b, 0, none⟩), .int .i64 0] w fun e w' => ∃ w1 v m, e = .returned (.pointer (some ⟨w1.heap.size, 0, none⟩)) ∧ Took w w1 b 2 g n xs v ∧ w' = (w1.drewN m).alloc (.cells #[.int .u64 held, v, .slice none 0 0] 46) := by
  have HR : Hid (∀ m, Calls Yba.prog 14 #[.pointer (some ⟨b, 2, none⟩)] (w.drewN m) fun e w' => ∃ g' c', e = .returned (.slice (some ⟨g', 0, none⟩) n c') ∧ Took w w' b 2 g n xs (.slice (some ⟨g', 0, none⟩) n c') ∧ w'.cell? ⟨b, 1, none⟩ = some (.int .u64 held)) := by
    intro m
    refine (room_v b 2 g n c xs (w.drewN m) (by simpa using hc) (by simpa using hf) hnc hm (by simpa using hx) hl hn h1).mono ?_
    rintro e w' ⟨v, he, ht⟩
    obtain ⟨g', c', rfl⟩ : ∃ g' c', v = .slice (some ⟨g', 0, none⟩) n c' := by
      rcases ht with ⟨h, _⟩ | ⟨g', c', h, _⟩
      · exact ⟨g, n, h⟩
      · exact ⟨g', c', h⟩
    refine ⟨g', c', he, ht.drew, ?_⟩
    rcases ht.drew with ⟨_, m', rfl⟩ | ⟨g', c', _, k1, _⟩
    · rw [sc_cell (x := .slice (some ⟨g, 0, none⟩) n c) (by simpa using hc)]
      simpa using hh
    · rw [cell_grown k1 hbb (by simp)]; exact hh
  clear hx h1 hl
  go_enter Yba.func11, Yba.ntmps11
  go_wp2
  go_region_with (go_at_call 14; go_must (refine (HR.out 1).mono ?_); rintro e w' ⟨g', c', rfl, ht, hcl⟩)
  all_goals
    go_wp2
    go_ret
    exact ⟨w', _, 0, rfl, ht, rfl⟩

set_option maxHeartbeats 800000 in
/-- 'node' of an inner node. -/
theorem node_c (b h g n c : Nat) (hpos : 0 < h) (hlt : h < 11) (held : Int) (xs : List Value) (w : World) (hh : w.cell? ⟨b, h * 4 + 1, none⟩ = some (.int .u64 held)) (hc : w.cell? ⟨b, h * 4 + 3, none⟩ = some (.slice (some ⟨g, 0, none⟩) n c)) (hf : w.frozen? ⟨b, h * 4 + 3, none⟩ = false) (hnc : n ≤ c) (hm : c ≤ maxLen)
    (hx : ∀ j u, xs[j]? = some u → w.cell? ⟨g, j, none⟩ = some u) (hl : xs.length = n) (hn : 0 < n) (h1 : ∀ u ∈ xs, u.oneCell' = true) (hbb : b < w.heap.size) :
    Calls Yba.prog 11 #[.pointer (some ⟨b, h * 4, none⟩), .int .i64 h] w fun e w' => ∃ w1 v m, e = .returned (.pointer (some ⟨w1.heap.size, 0, none⟩)) ∧ Took w w1 b (h * 4 + 3) g n xs v ∧ w' = (w1.drewN m).alloc (.cells #[.int .u64 held, .slice none 0 0, v] 46) := by
  have HR : Hid (∀ m, Calls Yba.prog 13 #[.pointer (some ⟨b, h * 4 + 3, none⟩)] (w.drewN m) fun e w' => ∃ g' c', e = .returned (.slice (some ⟨g', 0, none⟩) n c') ∧ Took w w' b (h * 4 + 3) g n xs (.slice (some ⟨g', 0, none⟩) n c') ∧ w'.cell? ⟨b, h * 4 + 1, none⟩ = some (.int .u64 held)) := by
    intro m
    refine (room_c b (h * 4 + 3) g n c xs (w.drewN m) (by simpa using hc) (by simpa using hf) hnc hm (by simpa using hx) hl hn h1).mono ?_
    rintro e w' ⟨v, he, ht⟩
    obtain ⟨g', c', rfl⟩ : ∃ g' c', v = .slice (some ⟨g', 0, none⟩) n c' := by
      rcases ht with ⟨h, _⟩ | ⟨g', c', h, _⟩
      · exact ⟨g, n, h⟩
      · exact ⟨g', c', h⟩
    refine ⟨g', c', he, ht.drew, ?_⟩
    rcases ht.drew with ⟨_, m', rfl⟩ | ⟨g', c', _, k1, _⟩
    · rw [sc_cell (x := .slice (some ⟨g, 0, none⟩) n c) (by simpa using hc)]
      simpa using hh
    · rw [cell_grown k1 hbb (by simp)]; exact hh
  clear hx h1 hl
  go_enter Yba.func11, Yba.ntmps11
  go_wp2
  go_region_with (go_at_call 13; go_must (refine (HR.out 1).mono ?_); rintro e w' ⟨g', c', rfl, ht, hcl⟩)
  all_goals
    go_wp2
    go_ret
    exact ⟨w', _, 0, rfl, ht, rfl⟩

end Go.Proofs.Ybulkojq
