import Derived.Test.YbulkojqAdd
set_option linter.unusedVariables false
set_option linter.unusedSimpArgs false
namespace Go.Proofs.Ybulkojq
open Go.RowKit

/-- A block that holds a nil pointer is no part of a finished node. -/
theorem Body.drop {I : Nat → Prop} {w : World} {r : Nat} (hr : w.cell? ⟨r, 0, none⟩ = some (.pointer none)) : ∀ (h p : Nat) (ss : List Nat) (xs : List Value) (es : List Ent), Body I w h p ss xs es → Body (fun k => I k ∧ k ≠ r) w h p ss xs es
  | 0, _, _, _, _, hb => hb
  | h + 1, p, ss, xs, es, hb => by
    obtain ⟨ks, h1, h2, h3, h4, h5⟩ := hb
    refine ⟨ks, h1, h2, h3, h4, fun k hk => ?_⟩
    obtain ⟨q1, hp, ss', v', xs', c0, c1, c2, ⟨g, c, e1, e2, e3⟩, hn, hbd⟩ := h5 k hk
    have hg : g ≠ r := by
      rintro rfl
      cases hx : xs' with
      | nil => exact hn hx
      | cons x0 rest =>
        have := e3 0 x0 (by rw [hx]; rfl)
        rw [hr] at this
        obtain rfl : Value.pointer none = x0 := by simpa using this
        cases h with
        | zero =>
          obtain ⟨b1, _⟩ := hbd
          rw [hx] at b1
          cases hes : k.es with
          | nil => rw [hes] at b1; cases b1
          | cons a b => rw [hes] at b1; simp at b1
        | succ h =>
          obtain ⟨ks', b1, _⟩ := hbd
          rw [hx] at b1
          cases ks' with
          | nil => cases b1
          | cons a b => simp at b1
    refine ⟨⟨q1, ?_⟩, hp, ss', v', xs', c0, c1, c2, ⟨g, c, e1, ⟨e2, hg⟩, e3⟩, hn, Body.drop hr h _ _ _ _ hbd⟩
    intro e
    rw [e, hr] at c0
    simp at c0

theorem TrieOf.drop {I : Nat → Prop} {w : World} {r h blk pre : Nat} {es : List Ent} (hr : w.cell? ⟨r, 0, none⟩ = some (.pointer none)) (t : TrieOf (Body I w h) I w h blk pre es) :
    TrieOf (Body (fun k => I k ∧ k ≠ r) w h) (fun k => I k ∧ k ≠ r) w h blk pre es := by
  have hb : Body I w (h + 1) 0 [0] [.pointer (some ⟨blk, 0, none⟩)] es → True := fun _ => trivial
  obtain ⟨q1, hp, ss', v', xs', c0, c1, c2, ⟨g, c, e1, e2, e3⟩, hn, hbd⟩ := t
  have hg : g ≠ r := by
    rintro rfl
    cases hx : xs' with
    | nil => exact hn hx
    | cons x0 rest =>
      have := e3 0 x0 (by rw [hx]; rfl)
      rw [hr] at this
      obtain rfl : Value.pointer none = x0 := by simpa using this
      cases h with
      | zero =>
        obtain ⟨b1, _⟩ := hbd
        rw [hx] at b1
        cases hes : es with
        | nil => rw [hes] at b1; cases b1
        | cons a b => rw [hes] at b1; simp at b1
      | succ h =>
        obtain ⟨ks', b1, _⟩ := hbd
        rw [hx] at b1
        cases ks' with
        | nil => cases b1
        | cons a b => simp at b1
  refine ⟨⟨q1, ?_⟩, hp, ss', v', xs', c0, c1, c2, ⟨g, c, e1, ⟨e2, hg⟩, e3⟩, hn, Body.drop hr h _ _ _ _ hbd⟩
  intro e
  rw [e, hr] at c0
  simp at c0

theorem low10 {hi h : Nat} (h10 : h ≤ 10) (t : hi * 64 ^ (h + 1) < 18446744073709551616) (hne : hi ≠ 0) : h ≤ 9 := by
  by_cases e : h = 10
  · subst e
    have e : (64 : Nat) ^ (10 + 1) = 73786976294838206464 := by decide
    rw [e] at t
    omega
  · omega

theorem cell_blk {w : World} {r o : Nat} {c : Array Value} {t : TypeId} {f : Nat × Nat} (h : w.heap[r]? = some (.cells c t f)) : w.cell? ⟨r, o, none⟩ = c[o]? := by
  unfold World.cell?
  rw [h]
  rfl
theorem froz_blk {w : World} {r o : Nat} {c : Array Value} {t : TypeId} (h : w.heap[r]? = some (.cells c t (0, 0))) : w.frozen? ⟨r, o, none⟩ = false := by
  unfold World.frozen?
  rw [h]
  simp

theorem set_blk {w : World} {r o : Nat} {c : Array Value} {t : TypeId} {f : Nat × Nat} {u : Value} (h : w.heap[r]? = some (.cells c t f)) : (w.setCell ⟨r, o, none⟩ u).heap[r]? = some (.cells (c.setIfInBounds o u) t f) := by
  simp [World.setCell, Array.getElem?_modify, h]

/-- The loop of 'seqMap'. -/
def Going (w : World) (b r : Nat) (E : List Ent) (h : Nat) (wr : World) : Prop :=
  ∃ I S L bulk, Lay wr b I S L bulk ∧ Good I wr S h L ∧ h < L ∧ L ≤ 11 ∧ cat S h (L - h) = E ∧ Below b w wr ∧ I r ∧ wr.heap[r]? = some (.cells #[.pointer none, .int .i64 0] 36 (0, 0))

set_option maxHeartbeats 1000000 in
set_option maxRecDepth 100000 in
/-- 'seqMap'. -/
theorem map_walk {w : World} {b : Nat} {I : Nat → Prop} {S : Nat → Lv} {L : Nat} {bulk : Bool} {E : List Ent} (k : Built w b I S L bulk E) (hL : 0 < L) :
    Calls Yba.prog 6 #[.pointer (some ⟨b, 0, none⟩)] w fun e w' => ∃ nb h I', e = .returned (.agg #[.pointer (some ⟨nb, 0, none⟩), .int .i64 (h : Nat)]) ∧ TrieOf (Body I' w' h) I' w' h nb 0 E ∧ Below b w w' ∧ h ≤ 10 ∧ ∀ k, I' k → k < w'.heap.size := by
  have c44 : w.cell? ⟨b, 44, none⟩ = some (.int .i64 (L : Nat)) := k.lay.cells 44 (by omega)
  have hbl := k.lay.hb
  have hL' : ((L : Int) == 0) = false := by simp; omega
  have G0 : Hid (Going w b w.heap.size E 0 (w.alloc (.cells #[.pointer none, .int .i64 0] 36))) := Hid.mk (by
    have ga := World.grownBy_alloc w (.cells #[.pointer none, .int .i64 0] 36) none
    have l1 := (k.lay.more ga).done w.heap.size (by simp) hbl (by
      intro h hh e
      have := (k.lay.row h hh).lt _ e
      omega)
    have ex := (k.lay.extG ga).trans (Ext.more I _ w.heap.size)
    exact ⟨_, S, L, bulk, l1, k.good.keep ex, hL, k.l11, k.ent, below_grown ga (by omega), .inr rfl, heap_alloc_new w _⟩)
  clear k
  go_enter Yba.func6, Yba.ntmps6
  go_wp2
  go_loopw [3] (fun i wr => ∃ h : Nat, h ≤ 10 ∧ i = .int .i64 h ∧ Going w b w.heap.size E h wr) (fun i _ => 11 - (intOf i).toNat)
  case atStart => exact ⟨0, by omega, rfl, G0.out⟩
  case round =>
    obtain ⟨h, h10, rfl, I1, S1, L1, bk1, l1', g1', hL1, l11, hcat', be1', hr1, hr2'⟩ := hrel
    have d44 : wr.cell? ⟨b, 44, none⟩ = some (.int .i64 (L1 : Nat)) := l1'.cells 44 (by omega)
    have ch : wr.cell? ⟨b, h * 4, none⟩ = some (.int .u64 ((S1 h).high : Nat)) := by rw [l1'.cells _ (by omega), cellv_high _ _ _ (by omega)]
    have l1 := Hid.mk l1'
    have g1 := Hid.mk g1'
    have hcat := Hid.mk hcat'
    have be1 := Hid.mk be1'
    have hr2 := Hid.mk hr2'
    clear l1' g1' hcat' be1' hr2' c44 G0
    by_cases hlt : h + 1 < L1
    · have hlt' : (h : Int) < (L1 : Int) - 1 := by omega
      have H9 : h ≤ 9 := by omega
      have CH := Hid.mk (hang (h := h) H9 wr b I1 S1 L1 bk1 l1.out g1.out hL1 l11)
      go_wp2_with (go_at_call 8; go_must (refine CH.out.mono ?_); rintro e w3 ⟨rfl, I3, S3, L3, bk3, l3, g3, hL3, l113, ex3, be3, hh3, hs3, hcat3⟩; have GO : Hid (Going w b w.heap.size E (h + 1) w3) := Hid.mk ⟨I3, S3, L3, bk3, l3, g3, hL3, l113, by rw [hcat3]; exact hcat.out, be1.out.trans be3, ex3.sub _ hr1, by rw [ex3.same _ hr1]; exact hr2.out⟩; clear l3 g3 ex3 be3 hs3 hcat3 hh3)
      go_roundw
      case rel => exact ⟨h + 1, by omega, by go_num, GO.out⟩
      case measure => simp [intOf]; omega
    · have hlt' : ¬ ((h : Int) < (L1 : Int) - 1) := by omega
      by_cases hz : (S1 h).high = 0
      · have NOD := Hid.mk (node_lay l1.out (h := h) (by omega) (g1.out.body h (Nat.le_refl _) hL1) (g1.out.some h (Nat.le_refl _) hL1) (by omega))
        go_wp2_with fail
        refine NOD.out.mono ?_
        rintro e w3 ⟨nb, rfl, I3, v3, xs3, l3, ex3, tr3, be3⟩
        have rr : w3.heap[w.heap.size]? = some (.cells #[.pointer none, .int .i64 0] 36 (0, 0)) := by rw [ex3.same _ hr1]; exact hr2.out
        have q0 : w3.cell? ⟨w.heap.size, 0, none⟩ = some (.pointer none) := cell_blk rr
        have q1 : w3.cell? ⟨w.heap.size, 1, none⟩ = some (.int .i64 0) := cell_blk rr
        have f0 : ∀ o, w3.frozen? ⟨w.heap.size, o, none⟩ = false := fun o => froz_blk rr
        have L3' := Hid.mk l3
        have T3 := Hid.mk tr3
        have B3 := Hid.mk be3
        have RR := Hid.mk rr
        clear l3 ex3 tr3 be3 rr
        go_wp2
        have hfin := set_blk (o := 1) (u := .int .i64 (h : Nat)) (set_blk (o := 0) (u := .pointer (some ⟨nb, 0, none⟩)) RR.out)
        refine bodyPost_ret (results_cell_row (P := Yba.prog) rfl _ _ w.heap.size 36 _ (0, 0) _ rfl hfin Yba.underlying36 rfl (by kernel_rfl)) rfl ?_
        refine ⟨nb, h, (fun k => I3 k ∧ k ≠ w.heap.size), rfl, ?_, ?_, h10, ?_⟩
        · have t3 := T3.out.drop q0
          rw [hz] at t3
          have hes : (S1 h).es = E := by
            rw [← hcat.out, show L1 - h = 1 by omega]
            simp [cat]
          rw [hes] at t3
          have ex : Ext (fun k => I3 k ∧ k ≠ w.heap.size) w3 (fun k => I3 k ∧ k ≠ w.heap.size) ((w3.setCell ⟨w.heap.size, 0, none⟩ (.pointer (some ⟨nb, 0, none⟩))).setCell ⟨w.heap.size, 1, none⟩ (.int .i64 (h : Nat))) :=
            ⟨fun _ h => h, fun k hk => by rw [Below.heap_setCell _ _ _ _ hk.2, Below.heap_setCell _ _ _ _ hk.2]⟩
          exact t3.keep ex (fun p ss xs es => Body.keep ex h p ss xs es)
        · exact ((be1.out.trans B3.out).setCell (p := ⟨w.heap.size, 0, none⟩) (Nat.le_of_lt hbl) _).setCell (p := ⟨w.heap.size, 1, none⟩) (Nat.le_of_lt hbl) _
        · intro k hk
          rw [World.size_setCell, World.size_setCell]
          exact L3'.out.lt k hk.1
      · have hz' : ¬ (((S1 h).high : Int) = 0) := by omega
        have H9 : h ≤ 9 := low10 h10 (g1.out.top h (Nat.le_refl _) hL1) hz
        have CH := Hid.mk (hang (h := h) H9 wr b I1 S1 L1 bk1 l1.out g1.out hL1 l11)
        go_wp2_with (go_at_call 8; go_must (refine CH.out.mono ?_); rintro e w3 ⟨rfl, I3, S3, L3, bk3, l3, g3, hL3, l113, ex3, be3, hh3, hs3, hcat3⟩; have GO : Hid (Going w b w.heap.size E (h + 1) w3) := Hid.mk ⟨I3, S3, L3, bk3, l3, g3, hL3, l113, by rw [hcat3]; exact hcat.out, be1.out.trans be3, ex3.sub _ hr1, by rw [ex3.same _ hr1]; exact hr2.out⟩; clear l3 g3 ex3 be3 hs3 hcat3 hh3)
        go_roundw
        case rel => exact ⟨h + 1, by omega, by go_num, GO.out⟩
        case measure => simp [intOf]; omega
end Go.Proofs.Ybulkojq
