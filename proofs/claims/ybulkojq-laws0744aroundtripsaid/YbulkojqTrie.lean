import Derived.Test.YbulkojqPlain
set_option linter.unusedVariables false
set_option linter.unusedSimpArgs false
namespace Go.Proofs.Ybulkojq
open Go.RowKit

abbrev Ent := Nat × Nat

/-- A child: its slot, its block, the entries under it. -/
structure Kid where
  slot : Nat
  blk : Nat
  es : List Ent

/-- A level of the builder: its number, the slots taken, its row and what lies in it, the entries under it. -/
structure Lv where
  high : Nat
  ss : List Nat
  v : Value
  xs : List Value
  es : List Ent

def upd (S : Nat → Lv) (h : Nat) (l : Lv) : Nat → Lv := fun k => if k = h then l else S k

theorem upd_same (S : Nat → Lv) (h : Nat) (l : Lv) : upd S h l h = l := by simp [upd]
theorem upd_other (S : Nat → Lv) {h k : Nat} (l : Lv) (hk : k ≠ h) : upd S h l k = S k := by simp [upd, hk]

/-- A finished row. -/
def RowOf (I : Nat → Prop) (w : World) (v : Value) (xs : List Value) : Prop :=
  ∃ g c, v = .slice (some ⟨g, 0, none⟩) xs.length c ∧ I g ∧ ∀ j u, xs[j]? = some u → w.cell? ⟨g, j, none⟩ = some u

/-- A finished node over bodies 'bd'. -/
def TrieOf (bd : Nat → List Nat → List Value → List Ent → Prop) (I : Nat → Prop) (w : World) (h blk pre : Nat) (es : List Ent) : Prop :=
  I blk ∧ pre < 288230376151711744 ∧ ∃ ss v xs, w.cell? ⟨blk, 0, none⟩ = some (.int .u64 (mask ss : Nat)) ∧ w.cell? ⟨blk, 1, none⟩ = some (if h = 0 then v else .slice none 0 0) ∧ w.cell? ⟨blk, 2, none⟩ = some (if h = 0 then .slice none 0 0 else v) ∧
    RowOf I w v xs ∧ xs ≠ [] ∧ bd pre ss xs es

/-- What a node holds: 'ss' its slots, 'xs' its row, 'es' the entries. -/
def Body (I : Nat → Prop) (w : World) : Nat → Nat → List Nat → List Value → List Ent → Prop
  | 0, pre, ss, xs, es => xs = es.map (fun e => .int .i64 (e.2 : Nat)) ∧ ss = es.map (fun e => e.1 % 64) ∧ Asc 0 ss ∧ ∀ e ∈ es, e.1 / 64 = pre
  | h + 1, pre, ss, xs, es => ∃ ks : List Kid, xs = ks.map (fun k => .pointer (some ⟨k.blk, 0, none⟩)) ∧ ss = ks.map (fun k => k.slot) ∧ Asc 0 ss ∧ es = ks.flatMap (fun k => k.es) ∧
      ∀ k ∈ ks, TrieOf (Body I w h) I w h k.blk (pre * 64 + k.slot) k.es

/-- What the finished blocks are stays: more may be finished. -/
structure Ext (I : Nat → Prop) (w : World) (I' : Nat → Prop) (w' : World) : Prop where
  sub : ∀ k, I k → I' k
  same : ∀ k, I k → w'.heap[k]? = w.heap[k]?

theorem Ext.refl (I : Nat → Prop) (w : World) : Ext I w I w := ⟨fun _ h => h, fun _ _ => rfl⟩
theorem Ext.trans {I I' I'' : Nat → Prop} {w w' w'' : World} (a : Ext I w I' w') (b : Ext I' w' I'' w'') : Ext I w I'' w'' :=
  ⟨fun k h => b.sub k (a.sub k h), fun k h => (b.same k (a.sub k h)).trans (a.same k h)⟩

theorem RowOf.keep {I I' : Nat → Prop} {w w' : World} {v : Value} {xs : List Value} (e : Ext I w I' w') (h : RowOf I w v xs) : RowOf I' w' v xs := by
  obtain ⟨g, c, h1, h2, h3⟩ := h
  exact ⟨g, c, h1, e.sub g h2, fun j u hj => by rw [World.cell?_of_block (e.same g h2)]; exact h3 j u hj⟩

theorem TrieOf.keep {bd bd' : Nat → List Nat → List Value → List Ent → Prop} {I I' : Nat → Prop} {w w' : World} {h blk pre : Nat} {es : List Ent} (e : Ext I w I' w') (hb : ∀ p ss xs es, bd p ss xs es → bd' p ss xs es)
    (t : TrieOf bd I w h blk pre es) : TrieOf bd' I' w' h blk pre es := by
  obtain ⟨h1, hp, ss, v, xs, c0, c1, c2, hr, hn, hbd⟩ := t
  have k : ∀ o, w'.cell? ⟨blk, o, none⟩ = w.cell? ⟨blk, o, none⟩ := fun o => World.cell?_of_block (e.same blk h1)
  exact ⟨e.sub _ h1, hp, ss, v, xs, by rw [k]; exact c0, by rw [k]; exact c1, by rw [k]; exact c2, hr.keep e, hn, hb _ _ _ _ hbd⟩

theorem Body.keep {I I' : Nat → Prop} {w w' : World} (e : Ext I w I' w') : ∀ (h p : Nat) (ss : List Nat) (xs : List Value) (es : List Ent), Body I w h p ss xs es → Body I' w' h p ss xs es
  | 0, _, _, _, _, hb => hb
  | h + 1, p, ss, xs, es, hb => by
    obtain ⟨ks, h1, h2, h3, h4, h5⟩ := hb
    exact ⟨ks, h1, h2, h3, h4, fun k hk => (h5 k hk).keep e (fun p ss xs es => Body.keep e h p ss xs es)⟩

theorem Body.asc {I : Nat → Prop} {w : World} {h p : Nat} {ss : List Nat} {xs : List Value} {es : List Ent} (hb : Body I w h p ss xs es) : Asc 0 ss := by
  cases h with
  | zero => exact hb.2.2.1
  | succ h => obtain ⟨ks, h1, h2, h3, h4, h5⟩ := hb; exact h3

/-- The type of a level's cells. -/
def rt (h : Nat) : TypeId := if h = 0 then 33 else 34
/-- Where a level keeps its row. -/
def off (h : Nat) : Nat := if h = 0 then 2 else h * 4 + 3

/-- The builder's cells. -/
def cellv (S : Nat → Lv) (L : Nat) (bulk : Bool) (o : Nat) : Value :=
  if o = 45 then .bool bulk else if o = 44 then .int .i64 (L : Nat) else
  if o % 4 = 0 then .int .u64 ((S (o / 4)).high : Nat) else if o % 4 = 1 then .int .u64 (mask (S (o / 4)).ss : Nat) else
  if o % 4 = 2 then (if o / 4 = 0 then (S (o / 4)).v else .slice none 0 0) else (if o / 4 = 0 then .slice none 0 0 else (S (o / 4)).v)

theorem cellv_high (S : Nat → Lv) (L : Nat) (bulk : Bool) {h : Nat} (hh : h < 11) : cellv S L bulk (h * 4) = .int .u64 ((S h).high : Nat) := by
  unfold cellv
  rw [if_neg (by omega), if_neg (by omega), if_pos (by omega), show h * 4 / 4 = h by omega]
theorem cellv_held (S : Nat → Lv) (L : Nat) (bulk : Bool) {h : Nat} (hh : h < 11) : cellv S L bulk (h * 4 + 1) = .int .u64 (mask (S h).ss : Nat) := by
  unfold cellv
  rw [if_neg (by omega), if_neg (by omega), if_neg (by omega), if_pos (by omega), show (h * 4 + 1) / 4 = h by omega]
theorem cellv_2 (S : Nat → Lv) (L : Nat) (bulk : Bool) : cellv S L bulk 2 = (S 0).v := rfl
theorem cellv_3 (S : Nat → Lv) (L : Nat) (bulk : Bool) : cellv S L bulk 3 = .slice none 0 0 := rfl
theorem cellv_val (S : Nat → Lv) (L : Nat) (bulk : Bool) {h : Nat} (hh : h < 11) (h0 : 0 < h) : cellv S L bulk (h * 4 + 2) = .slice none 0 0 := by
  unfold cellv
  rw [if_neg (by omega), if_neg (by omega), if_neg (by omega), if_neg (by omega), if_pos (by omega), if_neg (by omega)]
theorem cellv_kid (S : Nat → Lv) (L : Nat) (bulk : Bool) {h : Nat} (hh : h < 11) (h0 : 0 < h) : cellv S L bulk (h * 4 + 3) = (S h).v := by
  unfold cellv
  rw [if_neg (by omega), if_neg (by omega), if_neg (by omega), if_neg (by omega), if_neg (by omega), if_neg (by omega), show (h * 4 + 3) / 4 = h by omega]
theorem cellv_44 (S : Nat → Lv) (L : Nat) (bulk : Bool) : cellv S L bulk 44 = .int .i64 (L : Nat) := rfl
theorem cellv_45 (S : Nat → Lv) (L : Nat) (bulk : Bool) : cellv S L bulk 45 = .bool bulk := rfl
theorem cellv_off (S : Nat → Lv) (L : Nat) (bulk : Bool) {h : Nat} (hh : h < 11) : cellv S L bulk (off h) = (S h).v := by
  by_cases e : h = 0
  · subst e; rfl
  · rw [off, if_neg e]; exact cellv_kid S L bulk hh (by omega)
theorem off_lt {h : Nat} (hh : h < 11) : off h < 46 := by unfold off; split <;> omega

theorem cellv_other (S : Nat → Lv) (L : Nat) (bulk : Bool) {h o : Nat} (l : Lv) (ho : o / 4 ≠ h) : cellv (upd S h l) L bulk o = cellv S L bulk o := by
  unfold cellv
  rw [upd_other S l ho]

/-- How the builder lies in memory: 'I' is what is finished. -/
structure Lay (w : World) (b : Nat) (I : Nat → Prop) (S : Nat → Lv) (L : Nat) (bulk : Bool) : Prop where
  cells : ∀ o, o < 46 → w.cell? ⟨b, o, none⟩ = some (cellv S L bulk o)
  froz : ∀ o, w.frozen? ⟨b, o, none⟩ = false
  row : ∀ h, h < 11 → w.ownsRow (b + 1) (rt h) 1 (S h).v (S h).xs.length (S h).xs
  apart : ∀ h k, h < 11 → k < 11 → h ≠ k → (S h).v.ownBlock = none ∨ (S h).v.ownBlock ≠ (S k).v.ownBlock
  out : ¬ I b
  outr : ∀ h, h < 11 → ∀ g, (S h).v.ownBlock = some g → ¬ I g
  lt : ∀ k, I k → k < w.heap.size
  gt : ∀ k, I k → b < k

section
variable {w w' : World} {b : Nat} {I I' : Nat → Prop} {S S' : Nat → Lv} {L L' : Nat} {bulk bulk' : Bool}

theorem Lay.hb (l : Lay w b I S L bulk) : b < w.heap.size := World.block_lt_of_cell? _ _ (l.cells 0 (by omega))

theorem sc_cell {o p : Nat} {u x : Value} (h : w.cell? ⟨b, o, none⟩ = some x) : (w.setCell ⟨b, o, none⟩ u).cell? ⟨b, p, none⟩ = if p = o then some u else w.cell? ⟨b, p, none⟩ := by
  by_cases e : p = o
  · subst e; rw [if_pos rfl]; exact World.cell?_setCell_same _ _ _ h
  · rw [if_neg e]; exact World.cell?_setCell_other _ _ _ _ (by intro h; cases h; exact e rfl)

/-- A store that turns no row. -/
theorem Lay.set (l : Lay w b I S L bulk) {o : Nat} {u : Value} (ho : o < 46) (hc : ∀ p, p < 46 → (if p = o then u else cellv S L bulk p) = cellv S' L' bulk' p) (hv : ∀ h, h < 11 → (S' h).v = (S h).v ∧ (S' h).xs = (S h).xs) :
    Lay (w.setCell ⟨b, o, none⟩ u) b I S' L' bulk' where
  cells p hp := by
    rw [sc_cell (l.cells o ho), ← hc p hp]
    split
    · rfl
    · exact l.cells p hp
  froz p := by rw [World.frozen?_setCell]; exact l.froz p
  row h hh := by
    rw [(hv h hh).1, (hv h hh).2]
    exact ownsRow_setCell_below (l.row h hh) (show b < b + 1 by omega) u
  apart h k hh hk hne := by rw [(hv h hh).1, (hv k hk).1]; exact l.apart h k hh hk hne
  out := l.out
  outr h hh g hg := by rw [(hv h hh).1] at hg; exact l.outr h hh g hg
  lt k hk := by rw [World.size_setCell]; exact l.lt k hk
  gt := l.gt

theorem cell_grown {row : Option Nat} {a : Addr} (hg : w.grownBy w' row) (hlt : a.block < w.heap.size) (hne : some a.block ≠ row) : w'.cell? a = w.cell? a := World.cell?_of_block (hg.block a.block hlt hne)

theorem own_ge (l : Lay w b I S L bulk) {h : Nat} (hh : h < 11) : some b ≠ (S h).v.ownBlock := by
  intro e
  have := (l.row h hh).lt b e.symm
  omega

/-- A row that grew, and its level told of it. -/
theorem Lay.append (l : Lay w b I S L bulk) {h : Nat} (hh : h < 11) {w1 : World} {v' : Value} {xs' : List Value} (hg : w.grownBy w1 (S h).v.ownBlock) (hown : w1.ownsRow (b + 1) (rt h) 1 v' xs'.length xs')
    (hat : v'.ownBlock = none ∨ v'.ownBlock = (S h).v.ownBlock ∨ v'.ownBlock = some w.heap.size) :
    Lay (w1.setCell ⟨b, off h, none⟩ v') b I (upd S h { S h with v := v', xs := xs' }) L bulk := by
  have hcell : ∀ p, w1.cell? ⟨b, p, none⟩ = w.cell? ⟨b, p, none⟩ := fun p => cell_grown hg l.hb (own_ge l hh)
  have hfr : ∀ k, k < 11 → k ≠ h → v'.ownBlock = none ∨ (S k).v.ownBlock = none ∨ v'.ownBlock ≠ (S k).v.ownBlock := by
    intro k hk hne
    rcases hat with e | e | e
    · exact .inl e
    · rcases l.apart h k hh hk (fun e => hne e.symm) with e2 | e2
      · exact .inl (by rw [e, e2])
      · exact .inr (.inr (by rw [e]; exact e2))
    · refine .inr (.inr ?_)
      rw [e]
      intro e2
      have := (l.row k hk).lt _ e2.symm
      omega
  refine ⟨?_, ?_, ?_, ?_, l.out, ?_, ?_, l.gt⟩
  · intro p hp
    rw [sc_cell (x := cellv S L bulk (off h)) (by rw [hcell]; exact l.cells _ (off_lt hh))]
    by_cases e : p = off h
    · rw [if_pos e, e, cellv_off _ _ _ hh, upd_same]
    · rw [if_neg e, hcell, l.cells p hp]
      congr 1
      by_cases e2 : p / 4 = h
      · subst e2
        unfold cellv
        rw [upd_same]
        unfold off at e
        by_cases h0 : p / 4 = 0
        · rw [if_pos h0] at e
          rw [if_pos h0, if_pos h0, if_pos h0]
          split
          · rfl
          split
          · rfl
          split
          · rfl
          split
          · rfl
          rw [if_neg (by omega), if_neg (by omega)]
        · rw [if_neg h0] at e
          rw [if_neg h0, if_neg h0, if_neg h0]
          split
          · rfl
          split
          · rfl
          split
          · rfl
          split
          · rfl
          rw [if_pos (by omega), if_pos (by omega)]
      · exact (cellv_other S L bulk _ e2).symm
  · intro p
    rw [World.frozen?_setCell, World.frozen?_of_block (hg.block b l.hb (own_ge l hh))]
    exact l.froz p
  · intro k hk
    by_cases e : k = h
    · subst e
      rw [upd_same]
      exact ownsRow_setCell_below hown (show b < b + 1 by omega) v'
    · rw [upd_other _ _ e]
      refine ownsRow_setCell_below ((l.row k hk).kept hg ?_) (show b < b + 1 by omega) v'
      exact l.apart k h hk hh e
  · intro k j hk hj hne
    by_cases e : k = h
    · subst e
      rw [upd_same, upd_other _ _ (fun e => hne e.symm)]
      rcases hfr j hj (fun e => hne e.symm) with e | e | e
      · exact .inl e
      · by_cases e2 : v'.ownBlock = none
        · exact .inl e2
        · exact .inr (by show v'.ownBlock ≠ _; rw [e]; exact e2)
      · exact .inr e
    · by_cases e' : j = h
      · subst e'
        rw [upd_same, upd_other _ _ e]
        rcases hfr k hk e with e | e | e
        · by_cases e2 : (S k).v.ownBlock = none
          · exact .inl e2
          · exact .inr (by show _ ≠ v'.ownBlock; rw [e]; exact e2)
        · exact .inl e
        · exact .inr (fun e2 => e e2.symm)
      · rw [upd_other _ _ e, upd_other _ _ e']
        exact l.apart k j hk hj hne
  · intro k hk g hg'
    by_cases e : k = h
    · subst e
      rw [upd_same] at hg'
      rcases hat with e | e | e
      · rw [e] at hg'; cases hg'
      · rw [e] at hg'; exact l.outr k hk g hg'
      · rw [e] at hg'
        cases hg'
        intro hI
        exact absurd (l.lt _ hI) (by omega)
    · rw [upd_other _ _ e] at hg'
      exact l.outr k hk g hg'
  · intro k hk
    rw [World.size_setCell]
    exact Nat.lt_of_lt_of_le (l.lt k hk) hg.size

/-- Memory that grew, and nothing that was turned. -/
theorem Lay.more (l : Lay w b I S L bulk) (hg : w.grownBy w' none) : Lay w' b I S L bulk where
  cells o ho := by rw [cell_grown hg l.hb (by simp)]; exact l.cells o ho
  froz o := by rw [World.frozen?_of_block (hg.block b l.hb (by simp))]; exact l.froz o
  row h hh := (l.row h hh).kept hg (by
    by_cases e : (S h).v.ownBlock = none
    · exact .inl e
    · exact .inr e)
  apart := l.apart
  out := l.out
  outr := l.outr
  lt k hk := Nat.lt_of_lt_of_le (l.lt k hk) hg.size
  gt := l.gt

/-- More is finished. -/
theorem Lay.done (l : Lay w b I S L bulk) (g : Nat) (h1 : g < w.heap.size) (h2 : b < g) (h3 : ∀ h, h < 11 → (S h).v.ownBlock ≠ some g) : Lay w b (fun k => I k ∨ k = g) S L bulk where
  cells := l.cells
  froz := l.froz
  row := l.row
  apart := l.apart
  out h := by rcases h with h | h; exact l.out h; omega
  outr h hh k hk hI := by
    rcases hI with e | e
    · exact l.outr h hh k hk e
    · subst e; exact h3 h hh hk
  lt k hk := by
    rcases hk with e | e
    · exact l.lt k e
    · subst e; exact h1
  gt k hk := by
    rcases hk with e | e
    · exact l.gt k e
    · subst e; exact h2

theorem grown_drewN (w : World) (m : Nat) : w.grownBy (w.drewN m) none := ⟨rfl, rfl, rfl, Nat.le_refl _, fun _ _ _ => rfl⟩
theorem grown_setCell (w : World) (a : Addr) (u : Value) : w.grownBy (w.setCell a u) (some a.block) :=
  ⟨rfl, rfl, rfl, by simp, fun k hk hne => Below.heap_setCell _ _ _ _ (fun e => hne (by rw [e]))⟩

theorem Lay.extG (l : Lay w b I S L bulk) (hg : w.grownBy w' none) : Ext I w I w' := ⟨fun _ h => h, fun k hk => hg.block k (l.lt k hk) (by simp)⟩
theorem Lay.extS (l : Lay w b I S L bulk) (o : Nat) (u : Value) : Ext I w I (w.setCell ⟨b, o, none⟩ u) := ⟨fun _ h => h, fun k hk => Below.heap_setCell _ _ _ _ (fun e => by have e : k = b := e; exact l.out (by rw [← e]; exact hk))⟩
theorem Lay.extA (l : Lay w b I S L bulk) {h : Nat} (hh : h < 11) (hg : w.grownBy w' (S h).v.ownBlock) : Ext I w I w' := ⟨fun _ h => h, fun k hk => hg.block k (l.lt k hk) (fun e => l.outr h hh k e.symm hk)⟩
theorem Ext.more (I : Nat → Prop) (w : World) (g : Nat) : Ext I w (fun k => I k ∨ k = g) w := ⟨fun _ h => .inl h, fun _ _ => rfl⟩
end

/-- The levels from 'h0' on are in order. -/
structure Good (I : Nat → Prop) (w : World) (S : Nat → Lv) (h0 L : Nat) : Prop where
  body : ∀ j, h0 ≤ j → j < L → Body I w j (S j).high (S j).ss (S j).xs (S j).es
  some : ∀ j, h0 ≤ j → j < L → (S j).xs ≠ []
  top : ∀ j, h0 ≤ j → j < L → (S j).high * 64 ^ (j + 1) < 18446744073709551616
  chain : ∀ j, h0 ≤ j → j + 1 < L → (S (j + 1)).high * 64 ≤ (S j).high
  slots : ∀ j, h0 ≤ j → j + 1 < L → ∀ s ∈ (S (j + 1)).ss, (S (j + 1)).high * 64 + s < (S j).high

theorem Good.keep {I I' : Nat → Prop} {w w' : World} {S : Nat → Lv} {h L : Nat} (g : Good I w S h L) (e : Ext I w I' w') : Good I' w' S h L :=
  ⟨fun j h1 h2 => (g.body j h1 h2).keep e, g.some, g.top, g.chain, g.slots⟩

theorem Good.up {I : Nat → Prop} {w : World} {S : Nat → Lv} {h h' L : Nat} (g : Good I w S h L) (e : h ≤ h') : Good I w S h' L :=
  ⟨fun j h1 => g.body j (by omega), fun j h1 => g.some j (by omega), fun j h1 => g.top j (by omega), fun j h1 => g.chain j (by omega), fun j h1 => g.slots j (by omega)⟩

theorem Good.alike {I : Nat → Prop} {w : World} {S S' : Nat → Lv} {h L : Nat} (g : Good I w S h L) (e : ∀ j, h ≤ j → S' j = S j) : Good I w S' h L :=
  ⟨fun j h1 h2 => by rw [e j h1]; exact g.body j h1 h2, fun j h1 h2 => by rw [e j h1]; exact g.some j h1 h2, fun j h1 h2 => by rw [e j h1]; exact g.top j h1 h2,
   fun j h1 h2 => by rw [e j h1, e (j + 1) (by omega)]; exact g.chain j h1 h2, fun j h1 h2 => by rw [e j h1, e (j + 1) (by omega)]; exact g.slots j h1 h2⟩

/-- The entries of 'n' levels from 'lo' on, the highest first. -/
def cat (S : Nat → Lv) (lo : Nat) : Nat → List Ent
  | 0 => []
  | n + 1 => (S (lo + n)).es ++ cat S lo n

theorem cat_alike {S S' : Nat → Lv} {lo : Nat} : ∀ n, (∀ j, lo ≤ j → j < lo + n → (S' j).es = (S j).es) → cat S' lo n = cat S lo n
  | 0, _ => rfl
  | n + 1, h => by simp only [cat]; rw [h (lo + n) (by omega) (by omega), cat_alike n (fun j h1 h2 => h j h1 (by omega))]

theorem cat_low (S : Nat → Lv) (lo : Nat) : ∀ n, cat S lo (n + 1) = cat S (lo + 1) n ++ (S lo).es
  | 0 => by simp [cat]
  | n + 1 => by
    have e : cat S lo (n + 1 + 1) = (S (lo + (n + 1))).es ++ cat S lo (n + 1) := rfl
    have e2 : cat S (lo + 1) (n + 1) = (S (lo + 1 + n)).es ++ cat S (lo + 1) n := rfl
    rw [e, cat_low S lo n, e2, List.append_assoc, show lo + (n + 1) = lo + 1 + n by omega]

end Go.Proofs.Ybulkojq
