import Derived.Test.YbulkojqNode
import Derived.BigRegion
set_option linter.unusedVariables false
set_option linter.unusedSimpArgs false
namespace Go.Proofs.Ybulkojq
open Go.RowKit

theorem upd_upd (S : Nat → Lv) (h : Nat) (a c : Lv) : upd (upd S h a) h c = upd S h c := by
  funext k
  by_cases e : k = h
  · subst e; rw [upd_same, upd_same]
  · rw [upd_other _ _ e, upd_other _ _ e, upd_other _ _ e]

section
variable {w w' : World} {b : Nat} {I I' : Nat → Prop} {S S' : Nat → Lv} {L L' : Nat} {bulk bulk' : Bool}

theorem Lay.cast (l : Lay w b I S L bulk) (e : ∀ h, (S' h).high = (S h).high ∧ (S' h).ss = (S h).ss ∧ (S' h).v = (S h).v ∧ (S' h).xs = (S h).xs) : Lay w b I S' L bulk where
  cells o ho := by
    rw [l.cells o ho]
    unfold cellv
    rw [(e (o / 4)).1, (e (o / 4)).2.1, (e (o / 4)).2.2.1]
  froz := l.froz
  row h hh := by rw [(e h).2.2.1, (e h).2.2.2]; exact l.row h hh
  apart h k hh hk hne := by rw [(e h).2.2.1, (e k).2.2.1]; exact l.apart h k hh hk hne
  out := l.out
  outr h hh g hg := by rw [(e h).2.2.1] at hg; exact l.outr h hh g hg
  lt := l.lt
  gt := l.gt

theorem upd_fields {P : Lv → Lv → Prop} (hr : ∀ x, P x x) {h : Nat} {x : Lv} (hx : P x (S h)) : ∀ k, P (upd S h x k) (S k) := by
  intro k
  by_cases e : k = h
  · subst e; rw [upd_same]; exact hx
  · rw [upd_other _ _ e]; exact hr _

theorem set_high (S : Nat → Lv) (L : Nat) (bulk : Bool) {h : Nat} (hh : h < 11) (hi : Nat) : ∀ p, p < 46 → (if p = h * 4 then Value.int .u64 (hi : Nat) else cellv S L bulk p) = cellv (upd S h { S h with high := hi }) L bulk p := by
  intro p hp
  by_cases e : p = h * 4
  · rw [if_pos e, e, cellv_high _ _ _ hh, upd_same]
  · rw [if_neg e]
    by_cases e2 : p / 4 = h
    · subst e2
      unfold cellv
      rw [upd_same, if_neg (show ¬ p % 4 = 0 by omega), if_neg (show ¬ p % 4 = 0 by omega)]
    · exact (cellv_other S L bulk _ e2).symm

theorem set_held (S : Nat → Lv) (L : Nat) (bulk : Bool) {h : Nat} (hh : h < 11) (ss : List Nat) : ∀ p, p < 46 → (if p = h * 4 + 1 then Value.int .u64 (mask ss : Nat) else cellv S L bulk p) = cellv (upd S h { S h with ss := ss }) L bulk p := by
  intro p hp
  by_cases e : p = h * 4 + 1
  · rw [if_pos e, e, cellv_held _ _ _ hh, upd_same]
  · rw [if_neg e]
    by_cases e2 : p / 4 = h
    · subst e2
      unfold cellv
      rw [upd_same, if_neg (show ¬ p % 4 = 1 by omega), if_neg (show ¬ p % 4 = 1 by omega)]
    · exact (cellv_other S L bulk _ e2).symm

theorem Lay.high (l : Lay w b I S L bulk) {h : Nat} (hh : h < 11) (hi : Nat) : Lay (w.setCell ⟨b, h * 4, none⟩ (.int .u64 (hi : Nat))) b I (upd S h { S h with high := hi }) L bulk :=
  l.set (by omega) (set_high S L bulk hh hi) (fun k _ => upd_fields (S := S) (h := h) (P := fun x y => x.v = y.v ∧ x.xs = y.xs) (fun _ => ⟨rfl, rfl⟩) (x := { S h with high := hi }) ⟨rfl, rfl⟩ k)
theorem Lay.held (l : Lay w b I S L bulk) {h : Nat} (hh : h < 11) (ss : List Nat) : Lay (w.setCell ⟨b, h * 4 + 1, none⟩ (.int .u64 (mask ss : Nat))) b I (upd S h { S h with ss := ss }) L bulk :=
  l.set (by omega) (set_held S L bulk hh ss) (fun k _ => upd_fields (S := S) (h := h) (P := fun x y => x.v = y.v ∧ x.xs = y.xs) (fun _ => ⟨rfl, rfl⟩) (x := { S h with ss := ss }) ⟨rfl, rfl⟩ k)
theorem Lay.setBulk (l : Lay w b I S L bulk) (bk : Bool) : Lay (w.setCell ⟨b, 45, none⟩ (.bool bk)) b I S L bk :=
  l.set (by omega) (fun p hp => by
    unfold cellv
    by_cases e : p = 45
    · rw [if_pos e, if_pos e]
    · rw [if_neg e, if_neg e, if_neg e]) (fun _ _ => ⟨rfl, rfl⟩)
theorem Lay.lev (l : Lay w b I S L bulk) (n : Nat) : Lay (w.setCell ⟨b, 44, none⟩ (.int .i64 (n : Nat))) b I S n bulk :=
  l.set (by omega) (fun p hp => by
    unfold cellv
    by_cases e : p = 44
    · rw [if_pos e, if_pos e, if_neg (show ¬ p = 45 by omega)]
    · rw [if_neg e, if_neg e, if_neg e]) (fun _ _ => ⟨rfl, rfl⟩)
theorem Lay.again (l : Lay w b I S L bulk) {o : Nat} (ho : o < 46) {u : Value} (hu : cellv S L bulk o = u) : Lay (w.setCell ⟨b, o, none⟩ u) b I S L bulk :=
  l.set ho (fun p hp => by
    by_cases e : p = o
    · rw [if_pos e, e, hu]
    · rw [if_neg e]) (fun _ _ => ⟨rfl, rfl⟩)
theorem Lay.setRow (l : Lay w b I S L bulk) {h : Nat} (hh : h < 11) {v' : Value} {xs' : List Value} (hown : w.ownsRow (b + 1) (rt h) 1 v' xs'.length xs') (hat : v'.ownBlock = none ∨ v'.ownBlock = (S h).v.ownBlock) :
    Lay (w.setCell ⟨b, off h, none⟩ v') b I (upd S h { S h with v := v', xs := xs' }) L bulk :=
  l.append hh (grown_self _ _) hown (hat.elim .inl (fun e => .inr (.inl e)))

/-- A level is opened anew. -/
theorem Lay.fresh (l : Lay w b I S L bulk) {h : Nat} (hh : h < 11) (hi : Nat) {v' : Value} (hown : w.ownsRow (b + 1) (rt h) 1 v' 0 []) (hat : v'.ownBlock = none ∨ v'.ownBlock = (S h).v.ownBlock) :
    Lay ((((w.setCell ⟨b, h * 4, none⟩ (.int .u64 (hi : Nat))).setCell ⟨b, h * 4 + 1, none⟩ (.int .u64 0)).setCell ⟨b, h * 4 + 2, none⟩ (if h = 0 then v' else .slice none 0 0)).setCell ⟨b, h * 4 + 3, none⟩ (if h = 0 then .slice none 0 0 else v')) b I (upd S h ⟨hi, [], v', [], []⟩) L bulk := by
  have l1 := (l.high hh hi).held hh []
  rw [upd_same, upd_upd] at l1
  have hown1 : ∀ a1 a2 : Value, ((w.setCell ⟨b, h * 4, none⟩ a1).setCell ⟨b, h * 4 + 1, none⟩ a2).ownsRow (b + 1) (rt h) 1 v' 0 [] := fun a1 a2 =>
    ownsRow_setCell_below (ownsRow_setCell_below hown (show b < b + 1 by omega) _) (show b < b + 1 by omega) _
  by_cases h0 : h = 0
  · rw [if_pos h0, if_pos h0]
    have l2 := l1.setRow hh (v' := v') (xs' := []) (hown1 _ _) (by rw [upd_same]; exact hat)
    rw [upd_same, upd_upd] at l2
    subst h0
    have l3 := l2.again (o := 3) (by omega) (cellv_3 _ _ _)
    exact l3.cast (fun k => by
      by_cases e : k = 0
      · subst e; rw [upd_same, upd_same]; exact ⟨rfl, rfl, rfl, rfl⟩
      · rw [upd_other _ _ e, upd_other _ _ e]; exact ⟨rfl, rfl, rfl, rfl⟩)
  · rw [if_neg h0, if_neg h0]
    have l2 := l1.again (o := h * 4 + 2) (by omega) (cellv_val _ _ _ hh (by omega))
    have l3 := l2.setRow hh (v' := v') (xs' := []) (ownsRow_setCell_below (hown1 _ _) (show b < b + 1 by omega) _) (by rw [upd_same]; exact hat)
    rw [upd_same, upd_upd, off, if_neg h0] at l3
    exact l3.cast (fun k => by
      by_cases e : k = h
      · subst e; rw [upd_same, upd_same]; exact ⟨rfl, rfl, rfl, rfl⟩
      · rw [upd_other _ _ e, upd_other _ _ e]; exact ⟨rfl, rfl, rfl, rfl⟩)

theorem Lay.below (l : Lay w b I S L bulk) (o : Nat) (u : Value) : Below b w (w.setCell ⟨b, o, none⟩ u) := (Below.refl b w).setCell (p := ⟨b, o, none⟩) (Nat.le_refl _) u

end

set_option maxHeartbeats 1000000 in
theorem reopen_raw (b h : Nat) (hh : h < 11) (high : Int) (v1 v2 : Value) (a0 a1 : Option Addr) (n0 c0 n1 c1 : Nat) (w : World) 
    (hc0 : w.cell? ⟨b, h * 4, none⟩ = some v1) (hc1 : w.cell? ⟨b, h * 4 + 1, none⟩ = some v2) (hc2 : w.cell? ⟨b, h * 4 + 2, none⟩ = some (.slice a0 n0 c0)) (hc3 : w.cell? ⟨b, h * 4 + 3, none⟩ = some (.slice a1 n1 c1))
    (hf : ∀ o, w.frozen? ⟨b, o, none⟩ = false) :
    Calls Yba.prog 9 #[.pointer (some ⟨b, 0, none⟩), .int .i64 h, .int .u64 high] w fun e w' => e = .returned (.tuple #[]) ∧
      w' = ((((w.setCell ⟨b, h * 4, none⟩ (.int .u64 high)).setCell ⟨b, h * 4 + 1, none⟩ (.int .u64 0)).setCell ⟨b, h * 4 + 2, none⟩ (.slice a0 0 c0)).setCell ⟨b, h * 4 + 3, none⟩ (.slice a1 0 c1)).drew := by
  go_enter Yba.func9, Yba.ntmps9
  go_wp2
  go_region
  go_end0
  exact ⟨rfl, rfl⟩

theorem grown_drew (w : World) : w.grownBy w.drew none := ⟨rfl, rfl, rfl, Nat.le_refl _, fun _ _ _ => rfl⟩

/-- 'reopen'. -/
theorem reopen_lay {w : World} {b : Nat} {I : Nat → Prop} {S : Nat → Lv} {L : Nat} {bulk : Bool} (l : Lay w b I S L bulk) {h : Nat} (hh : h < 11) (hi : Nat) :
    Calls Yba.prog 9 #[.pointer (some ⟨b, 0, none⟩), .int .i64 (h : Nat), .int .u64 (hi : Nat)] w fun e w' => e = .returned (.tuple #[]) ∧ ∃ v', Lay w' b I (upd S h ⟨hi, [], v', [], []⟩) L bulk ∧ Ext I w I w' ∧ Below b w w' := by
  have q0 := l.cells (h * 4) (by omega)
  have q1 := l.cells (h * 4 + 1) (by omega)
  have q2 := l.cells (h * 4 + 2) (by omega)
  have q3 := l.cells (h * 4 + 3) (by omega)
  obtain ⟨a, n, c, hv, hown, hat⟩ : ∃ a n c, (S h).v = .slice a n c ∧ w.ownsRow (b + 1) (rt h) 1 (.slice a 0 c) 0 [] ∧ (Value.slice a 0 c).ownBlock = (S h).v.ownBlock := by
    obtain ⟨hl, ⟨hv, h0⟩ | ⟨g, cap, cur, hv, hg, hhp, hnc, hm, hcs, htk⟩⟩ := l.row h hh
    · exact ⟨none, 0, 0, hv, World.ownsRow_nil _ _ _ _, by rw [hv]⟩
    · exact ⟨some ⟨g, 0, none⟩, _, cap, hv, ⟨rfl, .inr ⟨g, cap, cur, rfl, hg, hhp, Nat.zero_le _, hm, hcs, by simp⟩⟩, by rw [hv]; rfl⟩
  have key : ∀ (a0 a1 : Option Addr) (c0 c1 : Nat), Value.slice a0 0 c0 = (if h = 0 then .slice a 0 c else .slice none 0 0) → Value.slice a1 0 c1 = (if h = 0 then .slice none 0 0 else .slice a 0 c) → ∀ w', w' = ((((w.setCell ⟨b, h * 4, none⟩ (.int .u64 (hi : Nat))).setCell ⟨b, h * 4 + 1, none⟩ (.int .u64 0)).setCell ⟨b, h * 4 + 2, none⟩ (.slice a0 0 c0)).setCell ⟨b, h * 4 + 3, none⟩ (.slice a1 0 c1)).drew →
      ∃ v', Lay w' b I (upd S h ⟨hi, [], v', [], []⟩) L bulk ∧ Ext I w I w' ∧ Below b w w' := by
    intro a0 a1 c0 c1 e0 e1 w' hw
    subst hw
    rw [e0, e1]
    have lf := l.fresh hh hi hown (.inr hat)
    refine ⟨_, lf.more (grown_drew _), ?_, ?_⟩
    · refine ⟨fun _ h => h, fun k hk => ?_⟩
      have hkb : k ≠ b := fun e => l.out (e ▸ hk)
      show (((((w.setCell _ _).setCell _ _).setCell _ _).setCell _ _).heap)[k]? = _
      rw [Below.heap_setCell _ _ _ _ hkb, Below.heap_setCell _ _ _ _ hkb, Below.heap_setCell _ _ _ _ hkb, Below.heap_setCell _ _ _ _ hkb]
    · exact (((((Below.refl b w).setCell (p := ⟨b, _, none⟩) (Nat.le_refl _) _).setCell (p := ⟨b, _, none⟩) (Nat.le_refl _) _).setCell (p := ⟨b, _, none⟩) (Nat.le_refl _) _).setCell (p := ⟨b, _, none⟩) (Nat.le_refl _) _).drew
  by_cases h0 : h = 0
  · have q2' : w.cell? ⟨b, h * 4 + 2, none⟩ = some (.slice a n c) := by rw [q2, ← hv]; subst h0; rfl
    have q3' : w.cell? ⟨b, h * 4 + 3, none⟩ = some (.slice none 0 0) := by rw [q3]; subst h0; rfl
    refine (reopen_raw b h hh (hi : Nat) _ _ _ _ _ _ _ _ w q0 q1 q2' q3' l.froz).mono ?_
    rintro e w' ⟨rfl, hw⟩
    exact ⟨rfl, key a none c 0 (by rw [if_pos h0]) (by rw [if_pos h0]) w' hw⟩
  · have q2' : w.cell? ⟨b, h * 4 + 2, none⟩ = some (.slice none 0 0) := by rw [q2, cellv_val _ _ _ hh (by omega)]
    have q3' : w.cell? ⟨b, h * 4 + 3, none⟩ = some (.slice a n c) := by rw [q3, cellv_kid _ _ _ hh (by omega), hv]
    refine (reopen_raw b h hh (hi : Nat) _ _ _ _ _ _ _ _ w q0 q1 q2' q3' l.froz).mono ?_
    rintro e w' ⟨rfl, hw⟩
    exact ⟨rfl, key none a 0 c (by rw [if_neg h0]) (by rw [if_neg h0]) w' hw⟩

end Go.Proofs.Ybulkojq
