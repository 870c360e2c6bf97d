import Derived.Test.YbulkojqHangAll
set_option linter.unusedVariables false
set_option linter.unusedSimpArgs false
namespace Go.Proofs.Ybulkojq
open Go.RowKit

/-- The builder between two entries: it holds the entries E. -/
structure Built (w : World) (b : Nat) (I : Nat → Prop) (S : Nat → Lv) (L : Nat) (bulk : Bool) (E : List Ent) : Prop where
  lay : Lay w b I S L bulk
  good : Good I w S 0 L
  l11 : L ≤ 11
  ent : cat S 0 L = E

/-- The leaf for 'seq' is open, and seq comes behind all that it holds. -/
structure Ready0 (w : World) (b : Nat) (I : Nat → Prop) (S : Nat → Lv) (L : Nat) (bulk : Bool) (seq : Nat) (E : List Ent) : Prop where
  lay : Lay w b I S L bulk
  good : Good I w S 1 L
  hL : 0 < L
  l11 : L ≤ 11
  high : (S 0).high = seq / 64
  body : Body I w 0 (S 0).high (S 0).ss (S 0).xs (S 0).es
  chain : 1 < L → (S 1).high * 64 ≤ (S 0).high
  slots2 : 1 < L → ∀ s ∈ (S 1).ss, (S 1).high * 64 + s < (S 0).high
  slots : ∀ s ∈ (S 0).ss, s < seq % 64
  ent : cat S 0 L = E

section
variable {w w' w3 w4 : World} {b : Nat} {I I3 : Nat → Prop} {S S3 : Nat → Lv} {L L3 : Nat} {bulk bulk3 : Bool} {seq : Nat} {E : List Ent} {v4 : Value}

theorem cat_pos {S : Nat → Lv} {L : Nat} (h : 0 < L) : cat S 0 L = cat S 1 (L - 1) ++ (S 0).es := by
  obtain ⟨m, rfl⟩ : ∃ m, L = m + 1 := ⟨L - 1, by omega⟩
  exact cat_low S 0 m

theorem Built.sub (k : Built w b I S L bulk E) (h : 0 < L) : ∀ e ∈ (S 0).es, e ∈ E := by
  intro e he
  rw [← k.ent, cat_pos h]
  exact List.mem_append.2 (.inr he)

theorem ready0_new (k : Built w b I S 0 bulk E) :
    Ready0 (((((w.setCell ⟨b, 0, none⟩ (.int .u64 (seq / 64 : Nat))).setCell ⟨b, 1, none⟩ (.int .u64 0)).setCell ⟨b, 2, none⟩ (.slice none 0 0)).setCell ⟨b, 3, none⟩ (.slice none 0 0)).setCell ⟨b, 44, none⟩ (.int .i64 (1 : Nat))) b I
      (upd S 0 ⟨seq / 64, [], .slice none 0 0, [], []⟩) 1 bulk seq E := by
  have lf := k.lay.fresh (h := 0) (by omega) (seq / 64) (World.ownsRow_nil _ _ _ _) (.inl rfl)
  refine ⟨lf.lev 1, ⟨fun j h1 h2 => by omega, fun j h1 h2 => by omega, fun j h1 h2 => by omega, fun j h1 h2 => by omega, fun j h1 h2 => by omega⟩, by omega, by omega, by rw [upd_same], ?_, fun h => by omega, fun h => by omega, ?_, ?_⟩
  · rw [upd_same]; exact ⟨rfl, rfl, trivial, fun e he => by cases he⟩
  · rw [upd_same]; intro s hs; cases hs
  · rw [← k.ent]; simp [cat, upd_same]

theorem ready0_same (k : Built w b I S L bulk E) (hL : 0 < L) (he : seq / 64 = (S 0).high) (hE : ∀ e ∈ E, e.1 < seq) : Ready0 w b I S L bulk seq E := by
  have b0 := k.good.body 0 (Nat.le_refl _) hL
  refine ⟨k.lay, k.good.up (by omega), hL, k.l11, he.symm, b0, fun h => k.good.chain 0 (Nat.le_refl _) h, fun h => k.good.slots 0 (Nat.le_refl _) h, ?_, k.ent⟩
  obtain ⟨_, h2, _, h4⟩ := b0
  intro s hs
  rw [h2] at hs
  obtain ⟨e, he', rfl⟩ := List.mem_map.1 hs
  have := h4 e he'
  have := hE e (k.sub hL e he')
  omega

theorem ready0_anew (k : Built w b I S L bulk E) (hL : 0 < L) (hE : ∀ e ∈ E, e.1 < seq) (hne : seq / 64 ≠ (S 0).high)
    (g3 : Good I3 w3 S3 1 L3) (hL3 : 1 < L3) (l11 : L3 ≤ 11) (hh3 : (S3 1).high = (S 0).high / 64) (hs3 : ∀ s ∈ (S3 1).ss, (S3 1).high * 64 + s ≤ (S 0).high) (hcat : cat S3 1 (L3 - 1) = cat S 0 (L - 0))
    (l4 : Lay w4 b I3 (upd S3 0 ⟨seq / 64, [], v4, [], []⟩) L3 bulk3) (ex : Ext I3 w3 I3 w4) : Ready0 w4 b I3 (upd S3 0 ⟨seq / 64, [], v4, [], []⟩) L3 bulk3 seq E := by
  have hlt : (S 0).high < seq / 64 := by
    have hn := k.good.some 0 (Nat.le_refl _) hL
    obtain ⟨h1, h2, h3, h4⟩ := k.good.body 0 (Nat.le_refl _) hL
    cases hes : (S 0).es with
    | nil => rw [h1, hes] at hn; exact absurd rfl hn
    | cons e r =>
      have he : e ∈ (S 0).es := by rw [hes]; simp
      have := h4 e he
      have := hE e (k.sub hL e he)
      omega
  have e1 : upd S3 0 ⟨seq / 64, [], v4, [], []⟩ 1 = S3 1 := upd_other _ _ (by omega)
  refine ⟨l4, (g3.keep ex).alike (fun j hj => upd_other _ _ (by omega)), by omega, l11, by rw [upd_same], ?_, ?_, ?_, ?_, ?_⟩
  · rw [upd_same]; exact ⟨rfl, rfl, trivial, fun e he => by cases he⟩
  · intro _
    rw [upd_same, e1, hh3]
    show (S 0).high / 64 * 64 ≤ seq / 64
    omega
  · intro _ s hs
    rw [e1] at hs
    rw [upd_same, e1]
    have := hs3 s hs
    show _ < seq / 64
    omega
  · rw [upd_same]; intro s hs; cases hs
  · rw [cat_pos (by omega), upd_same, List.append_nil, cat_alike _ (fun j h1 h2 => by rw [upd_other _ _ (by omega)]), hcat]
    exact k.ent

/-- The leaf's row is made ahead. -/
theorem ready0_make (r : Ready0 w b I S L bulk seq E) (hx : (S 0).xs = []) {w1 : World} (hg : w.grownBy w1 none) (hown : w1.ownsRow (b + 1) 33 1 (.slice (some ⟨w.heap.size, 0, none⟩) 0 64) 0 []) :
    Ready0 (w1.setCell ⟨b, 2, none⟩ (.slice (some ⟨w.heap.size, 0, none⟩) 0 64)) b I (upd S 0 { S 0 with v := .slice (some ⟨w.heap.size, 0, none⟩) 0 64, xs := [] }) L bulk seq E := by
  have hg' : w.grownBy w1 (S 0).v.ownBlock := ⟨hg.os, hg.tape, hg.output, hg.size, fun k hk _ => hg.block k hk (by simp)⟩
  have l1 := r.lay.append (h := 0) (by omega) hg' (xs' := []) hown (.inr (.inr rfl))
  have ex : Ext I w I (w1.setCell ⟨b, off 0, none⟩ (.slice (some ⟨w.heap.size, 0, none⟩) 0 64)) := (r.lay.extG hg).trans ((r.lay.more hg).extS _ _)
  have e1 : upd S 0 { S 0 with v := .slice (some ⟨w.heap.size, 0, none⟩) 0 64, xs := [] } 1 = S 1 := upd_other _ _ (by omega)
  refine ⟨l1, (r.good.keep ex).alike (fun j hj => upd_other _ _ (by omega)), r.hL, r.l11, by rw [upd_same]; exact r.high, ?_, ?_, ?_, ?_, ?_⟩
  · have := r.body
    rw [hx] at this
    rw [upd_same]
    exact this
  · rw [upd_same, e1]; exact r.chain
  · rw [upd_same, e1]; exact r.slots2
  · rw [upd_same]; exact r.slots
  · rw [cat_alike (S := S) L (fun j h1 h2 => by
      by_cases e : j = 0
      · subst e; rw [upd_same]
      · rw [upd_other _ _ e])]
    exact r.ent

/-- The entry is in. -/
theorem ready0_built {m v : Nat} {ob : Obj} {w2 w5 : World} {v5 : Value} (r : Ready0 w b I S L bulk seq E) (hseq : seq < 18446744073709551616)
    (hw2 : w2 = (w.setCell ⟨b, 1, none⟩ (.int .u64 (mask ((S 0).ss ++ [seq % 64]) : Nat))).drewN m)
    (hg : (w2.alloc ob).grownBy w5 (S 0).v.ownBlock) (hown : w5.ownsRow (b + 1) 33 1 v5 ((S 0).xs.length + 1) ((S 0).xs ++ [.int .i64 (v : Nat)]))
    (hat : v5.ownBlock = (S 0).v.ownBlock ∨ v5.ownBlock = some (w.heap.size + 1)) :
    ∃ S', Built (w5.setCell ⟨b, 2, none⟩ v5) b I S' L bulk (E ++ [(seq, v)]) ∧ Below b w (w5.setCell ⟨b, 2, none⟩ v5) := by
  have l1 := (r.lay.held (h := 0) (by omega) ((S 0).ss ++ [seq % 64])).more (grown_drewN _ m)
  have hs2 : w2.heap.size = w.heap.size := by rw [hw2]; show (w.setCell _ _).heap.size = _; rw [World.size_setCell]
  rw [show (0 * 4 + 1 : Nat) = 1 by rfl, ← hw2] at l1
  have ga := World.grownBy_alloc w2 ob none
  have l2 := l1.more ga
  have eV : (upd S 0 { S 0 with ss := (S 0).ss ++ [seq % 64] } 0).v = (S 0).v := by rw [upd_same]
  have hsa : (w2.alloc ob).heap.size = w.heap.size + 1 := by rw [World.size_alloc, hs2]
  have l3 := l2.append (h := 0) (by omega) (w1 := w5) (v' := v5) (xs' := (S 0).xs ++ [.int .i64 (v : Nat)]) (by rw [eV]; exact hg) (by rw [List.length_append]; exact hown) (by rw [eV, hsa]; exact .inr hat)
  rw [upd_same, upd_upd] at l3
  generalize hnew : (⟨(S 0).high, (S 0).ss ++ [seq % 64], v5, (S 0).xs ++ [.int .i64 (v : Nat)], (S 0).es ++ [(seq, v)]⟩ : Lv) = new
  have l4 : Lay (w5.setCell ⟨b, 2, none⟩ v5) b I (upd S 0 new) L bulk := l3.cast (fun k => by
    by_cases e : k = 0
    · subst e; rw [upd_same, upd_same, ← hnew]; exact ⟨rfl, rfl, rfl, rfl⟩
    · rw [upd_other _ _ e, upd_other _ _ e]; exact ⟨rfl, rfl, rfl, rfl⟩)
  have hb := r.lay.hb
  have hh2 : ∀ k, k ≠ b → w2.heap[k]? = w.heap[k]? := by
    intro k hkb
    rw [hw2]
    show (w.setCell _ _).heap[k]? = _
    rw [Below.heap_setCell _ _ _ _ hkb]
  have ex2 : Ext I w I (w5.setCell ⟨b, 2, none⟩ v5) := by
    refine ⟨fun _ h => h, fun k hk => ?_⟩
    have hkb : k ≠ b := fun e => r.lay.out (e ▸ hk)
    have hkl := r.lay.lt k hk
    rw [Below.heap_setCell _ _ _ _ hkb, hg.block k (by omega) (fun e => r.lay.outr 0 (by omega) k e.symm hk), ga.block k (by omega) (by simp), hh2 k hkb]
  have be2 : Below b w (w5.setCell ⟨b, 2, none⟩ v5) := by
    refine Below.setCell ?_ (p := ⟨b, _, none⟩) (Nat.le_refl _) _
    have b1 : Below b w w2 := by rw [hw2]; exact (below_grown (B := b) (grown_self w none) (by omega)).setCell (p := ⟨b, 1, none⟩) (Nat.le_refl _) _ |>.trans (below_grown (grown_drewN _ m) (by rw [World.size_setCell]; omega))
    exact (b1.trans (below_grown ga (by omega))).grown hg (by omega) (fun k hk => by have := (r.lay.row 0 (by omega)).lt k hk; omega)
  have hn : upd S 0 new 0 = new := upd_same _ _ _
  have ho : ∀ j, j ≠ 0 → upd S 0 new j = S j := fun j hj => upd_other _ _ hj
  refine ⟨upd S 0 new, ⟨l4, ?_, r.l11, ?_⟩, be2⟩
  · have gk := r.good.keep ex2
    refine ⟨fun j h1 h2 => ?_, fun j h1 h2 => ?_, fun j h1 h2 => ?_, fun j h1 h2 => ?_, fun j h1 h2 => ?_⟩
    · by_cases e : j = 0
      · subst e
        rw [hn, ← hnew]
        obtain ⟨q1, q2, q3, q4⟩ := r.body
        refine ⟨by simp [q1], by simp [q2], asc_snoc (Nat.mod_lt _ (by omega)) q3 (Nat.zero_le _) (fun x hx => r.slots x hx), fun e he => ?_⟩
        rcases List.mem_append.1 he with he | he
        · exact q4 e he
        · obtain rfl := List.mem_singleton.1 he
          exact r.high.symm
      · rw [ho j e]; exact gk.body j (by omega) h2
    · by_cases e : j = 0
      · subst e; rw [hn, ← hnew]; simp
      · rw [ho j e]; exact gk.some j (by omega) h2
    · by_cases e : j = 0
      · subst e; rw [hn, ← hnew]
        show (S 0).high * 64 ^ (0 + 1) < _
        rw [r.high]
        simp
        omega
      · rw [ho j e]; exact gk.top j (by omega) h2
    · by_cases e : j = 0
      · subst e; rw [hn, ho _ (by omega), ← hnew]; exact r.chain h2
      · rw [ho j e, ho (j + 1) (by omega)]; exact gk.chain j (by omega) h2
    · by_cases e : j = 0
      · subst e; rw [hn, ho _ (by omega), ← hnew]; exact r.slots2 h2
      · rw [ho j e, ho (j + 1) (by omega)]; exact gk.slots j (by omega) h2
  · have := r.ent
    rw [cat_pos r.hL] at this
    rw [cat_pos r.hL, hn, ← hnew, cat_alike _ (fun j h1 h2 => by rw [upd_other _ _ (by omega)]), ← this]
    simp
end

end Go.Proofs.Ybulkojq
