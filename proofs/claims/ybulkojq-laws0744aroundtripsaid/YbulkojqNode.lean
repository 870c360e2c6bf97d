import Derived.Test.YbulkojqTake
set_option linter.unusedVariables false
set_option linter.unusedSimpArgs false
namespace Go.Proofs.Ybulkojq
open Go.RowKit

theorem upd_self (S : Nat → Lv) (h : Nat) : upd S h (S h) = S := by
  funext k
  by_cases e : k = h
  · subst e; exact upd_same _ _ _
  · exact upd_other _ _ e

theorem Body.one {I : Nat → Prop} {w : World} {h p : Nat} {ss : List Nat} {xs : List Value} {es : List Ent} (hb : Body I w h p ss xs es) : ∀ u ∈ xs, u.oneCell' = true := by
  intro u hu
  cases h with
  | zero =>
    obtain ⟨rfl, _⟩ := hb
    obtain ⟨e, _, rfl⟩ := List.mem_map.1 hu
    rfl
  | succ h =>
    obtain ⟨ks, rfl, _⟩ := hb
    obtain ⟨e, _, rfl⟩ := List.mem_map.1 hu
    rfl

theorem grown_self (w : World) (row : Option Nat) : w.grownBy w row := ⟨rfl, rfl, rfl, Nat.le_refl _, fun _ _ _ => rfl⟩
theorem grown_node (w : World) (m : Nat) (o : Obj) : w.grownBy ((w.drewN m).alloc o) none := (grown_drewN w m).trans (World.grownBy_alloc _ o none)
theorem below_grown {B : Nat} {w w' : World} (hg : w.grownBy w' none) (hB : B ≤ w.heap.size) : Below B w w' := (Below.refl B w).grown hg hB (fun k h => by cases h)

/-- What a finished node is. -/
def Nod (w : World) (b : Nat) (I : Nat → Prop) (S : Nat → Lv) (L : Nat) (bulk : Bool) (h nb : Nat) (w' : World) : Prop :=
  ∃ I' v' xs', Lay w' b I' (upd S h { S h with v := v', xs := xs' }) L bulk ∧ Ext I w I' w' ∧ TrieOf (Body I' w' h) I' w' h nb (S h).high (S h).es ∧ Below b w w'

theorem took_lay {w w1 : World} {b : Nat} {I : Nat → Prop} {S : Nat → Lv} {L : Nat} {bulk : Bool} (l : Lay w b I S L bulk) {h g n c m : Nat} {v : Value} (hh : h < 11) (hv : (S h).v = .slice (some ⟨g, 0, none⟩) n c) (hn : (S h).xs.length = n)
    (ht : Took w w1 b (off h) g n (S h).xs v) (hb : Body I w h (S h).high (S h).ss (S h).xs (S h).es) (hne : (S h).xs ≠ []) (hp : (S h).high < 288230376151711744) :
    Nod w b I S L bulk h w1.heap.size ((w1.drewN m).alloc (.cells #[.int .u64 (mask (S h).ss : Nat), if h = 0 then v else .slice none 0 0, if h = 0 then .slice none 0 0 else v] 46)) := by
  have hrow := l.row h hh
  have hgb : (S h).v.ownBlock = some g := by rw [hv]; rfl
  have hg := hrow.lt g hgb
  have hcells : ∀ j u, (S h).xs[j]? = some u → w.cell? ⟨g, j, none⟩ = some u := fun j u hu => by rw [← add0]; exact hrow.cells hgb j u hu
  generalize hob : Obj.cells #[.int .u64 (mask (S h).ss : Nat), if h = 0 then v else .slice none 0 0, if h = 0 then .slice none 0 0 else v] 46 = ob
  have hgr := grown_node w1 m ob
  have hnb : ((w1.drewN m).alloc ob).heap[w1.heap.size]? = some ob := heap_alloc_new (w1.drewN m) ob
  have hcn : ∀ o, ((w1.drewN m).alloc ob).cell? ⟨w1.heap.size, o, none⟩ = #[Value.int .u64 (mask (S h).ss : Nat), if h = 0 then v else .slice none 0 0, if h = 0 then .slice none 0 0 else v][o]? := by
    intro o
    unfold World.cell?
    rw [hnb, ← hob]
    rfl
  have hlt1 : w1.heap.size < ((w1.drewN m).alloc ob).heap.size := (Array.getElem?_eq_some_iff.1 hnb).1
  rcases ht with ⟨hv1, m', hw1⟩ | ⟨g', c', hv1, k1, k2, k3, k4⟩
  · have l1 := l.more (grown_drewN w m')
    have l2 := l1.append hh (grown_self _ _) (World.ownsRow_nil _ _ _ _) (xs' := []) (.inl rfl)
    rw [← hw1] at l2
    have hs1 : w1.heap.size = w.heap.size := by rw [hw1, World.size_setCell]; rfl
    have l3 := l2.done g (by omega) (by omega) (by
      intro k hk e
      by_cases ek : k = h
      · subst ek; rw [upd_same] at e; cases e
      · rw [upd_other _ _ ek] at e
        rcases l.apart k h hk hh ek with e2 | e2
        · rw [e] at e2; cases e2
        · rw [e, hgb] at e2; exact e2 rfl)
    have l4 := l3.more hgr
    have l5 := l4.done w1.heap.size hlt1 (by have := l.hb; omega) (by
      intro k hk e
      have := (l3.row k hk).lt _ e
      omega)
    have ex : Ext I w _ _ := (((l.extG (grown_drewN w m')).trans (l1.extS (off h) (.slice none 0 0))).trans (hw1 ▸ Ext.more I w1 g)).trans ((l3.extG hgr).trans (Ext.more _ _ w1.heap.size))
    refine ⟨_, _, _, l5, ex, ⟨.inr rfl, hp, (S h).ss, v, (S h).xs, hcn 0, hcn 1, hcn 2, ?_, hne, hb.keep ex⟩, ?_⟩
    · refine ⟨g, n, by rw [hv1, hn], .inl (.inr rfl), fun j u hu => ?_⟩
      rw [cell_grown hgr (show g < w1.heap.size by omega) (by simp), hw1, World.cell?_setCell_other _ _ _ _ (by intro e; cases e; omega)]
      exact hcells j u hu
    · refine Below.trans (b := w1) ?_ (below_grown hgr (by have := l.hb; omega))
      rw [hw1]
      exact (below_grown (B := b) (grown_drewN w m') (by have := l.hb; omega)).setCell (p := ⟨b, off h, none⟩) (Nat.le_refl _) _
  · have l1 := l.more k1
    have l2 := l1.done g' k3 (by have := l.hb; omega) (by
      intro k hk e
      have := (l.row k hk).lt _ e
      omega)
    have l4 := l2.more hgr
    have hs1 := k1.size
    have l5 := l4.done w1.heap.size hlt1 (by have := l.hb; omega) (by
      intro k hk e
      have := (l.row k hk).lt _ e
      omega)
    have ex : Ext I w _ _ := ((l.extG k1).trans (Ext.more I w1 g')).trans ((l2.extG hgr).trans (Ext.more _ _ w1.heap.size))
    refine ⟨_, (S h).v, (S h).xs, ?_, ex, ⟨.inr rfl, hp, (S h).ss, v, (S h).xs, hcn 0, hcn 1, hcn 2, ?_, hne, hb.keep ex⟩, ?_⟩
    · have e : ({ S h with v := (S h).v, xs := (S h).xs } : Lv) = S h := rfl
      rw [e, upd_self]
      exact l5
    · refine ⟨g', c', by rw [hv1, hn], .inl (.inr rfl), fun j u hu => ?_⟩
      rw [cell_grown hgr k3 (by simp)]
      exact k4 j u hu
    · exact (below_grown k1 (by have := l.hb; omega)).trans (below_grown hgr (by have := l.hb; omega))

/-- 'node': what is open becomes a finished node. -/
theorem node_lay {w : World} {b : Nat} {I : Nat → Prop} {S : Nat → Lv} {L : Nat} {bulk : Bool} (l : Lay w b I S L bulk) {h : Nat} (hh : h < 11)
    (hb : Body I w h (S h).high (S h).ss (S h).xs (S h).es) (hne : (S h).xs ≠ []) (hp : (S h).high < 288230376151711744) :
    Calls Yba.prog 11 #[.pointer (some ⟨b, h * 4, none⟩), .int .i64 (h : Nat)] w fun e w' => ∃ nb, e = .returned (.pointer (some ⟨nb, 0, none⟩)) ∧ Nod w b I S L bulk h nb w' := by
  have hrow := l.row h hh
  obtain ⟨hl, ⟨hv, h0⟩ | ⟨g, cap, cur, hv, hg, hhp, hnc, hm, hcs, htk⟩⟩ := l.row h hh
  · exact absurd (List.eq_nil_of_length_eq_zero h0) hne
  have hgb : (S h).v.ownBlock = some g := by rw [hv]; rfl
  have hcells : ∀ j u, (S h).xs[j]? = some u → w.cell? ⟨g, j, none⟩ = some u := fun j u hu => by rw [← add0]; exact hrow.cells hgb j u hu
  have hpos : 0 < (S h).xs.length := List.length_pos_iff.2 hne
  by_cases h0 : h = 0
  · subst h0
    have hc := l.cells 2 (by omega)
    rw [cellv_2, hv] at hc
    have hh1 := l.cells (0 * 4 + 1) (by omega)
    rw [cellv_held _ _ _ hh] at hh1
    refine (node_v b g _ cap _ (S 0).xs w hh1 hc (l.froz _) hnc hm hcells rfl hpos hb.one l.hb).mono ?_
    rintro e w' ⟨w1, v, m, rfl, ht, rfl⟩
    exact ⟨_, rfl, took_lay l hh hv rfl ht hb hne hp⟩
  · have hc := l.cells (h * 4 + 3) (by omega)
    rw [cellv_kid _ _ _ hh (by omega), hv] at hc
    have hh1 := l.cells (h * 4 + 1) (by omega)
    rw [cellv_held _ _ _ hh] at hh1
    refine (node_c b h g _ cap (by omega) hh _ (S h).xs w hh1 hc (l.froz _) hnc hm hcells rfl hpos hb.one l.hb).mono ?_
    rintro e w' ⟨w1, v, m, rfl, ht, rfl⟩
    have := took_lay (m := m) l hh hv rfl (v := v) (w1 := w1) (by rw [off, if_neg h0]; exact ht) hb hne hp
    rw [if_neg h0, if_neg h0] at this
    exact ⟨_, rfl, this⟩

end Go.Proofs.Ybulkojq
