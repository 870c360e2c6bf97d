import Derived.Test.YbulkojqReopen
set_option linter.unusedVariables false
set_option linter.unusedSimpArgs false
namespace Go.Proofs.Ybulkojq
open Go.RowKit

/-- All is ready to hang a node with number 'hi' of height 'h' at the level above. -/
structure Ready (w : World) (b : Nat) (I : Nat → Prop) (S : Nat → Lv) (L : Nat) (bulk : Bool) (h hi : Nat) : Prop where
  lay : Lay w b I S L bulk
  good : Good I w S (h + 2) L
  hL : h + 1 < L
  l11 : L ≤ 11
  high : (S (h + 1)).high = hi / 64
  body : Body I w (h + 1) (S (h + 1)).high (S (h + 1)).ss (S (h + 1)).xs (S (h + 1)).es
  top : (S (h + 1)).high * 64 ^ (h + 2) < 18446744073709551616
  chain : h + 2 < L → (S (h + 2)).high * 64 ≤ (S (h + 1)).high
  slots2 : h + 2 < L → ∀ s ∈ (S (h + 2)).ss, (S (h + 2)).high * 64 + s < (S (h + 1)).high
  slots : ∀ s ∈ (S (h + 1)).ss, (S (h + 1)).high * 64 + s < hi

/-- What 'hang' leaves. -/
def Hung (w : World) (b : Nat) (I : Nat → Prop) (S : Nat → Lv) (L h : Nat) (w' : World) : Prop :=
  ∃ I' S' L' bulk', Lay w' b I' S' L' bulk' ∧ Good I' w' S' (h + 1) L' ∧ h + 1 < L' ∧ L' ≤ 11 ∧ Ext I w I' w' ∧ Below b w w' ∧ (S' (h + 1)).high = (S h).high / 64 ∧
    (∀ s ∈ (S' (h + 1)).ss, (S' (h + 1)).high * 64 + s ≤ (S h).high) ∧ cat S' (h + 1) (L' - (h + 1)) = cat S h (L - h)

theorem ready_hung {w w2 w5 : World} {b : Nat} {I I2 : Nat → Prop} {S S2 : Nat → Lv} {L L2 h nb : Nat} {bulk2 : Bool} {ob : Obj} {v5 : Value} (r : Ready w2 b I2 S2 L2 bulk2 h (S h).high) (ex : Ext I w I2 w2) (be : Below b w w2)
    (tr : TrieOf (Body I2 w2 h) I2 w2 h nb (S h).high (S h).es) (hcat : cat S2 (h + 1) (L2 - (h + 1)) ++ (S h).es = cat S h (L - h))
    (hg : ((w2.setCell ⟨b, (h + 1) * 4 + 1, none⟩ (.int .u64 (mask ((S2 (h + 1)).ss ++ [(S h).high % 64]) : Nat))).alloc ob).grownBy w5 (S2 (h + 1)).v.ownBlock)
    (hown : w5.ownsRow (b + 1) 34 1 v5 ((S2 (h + 1)).xs.length + 1) ((S2 (h + 1)).xs ++ [.pointer (some ⟨nb, 0, none⟩)]))
    (hat : v5.ownBlock = (S2 (h + 1)).v.ownBlock ∨ v5.ownBlock = some (w2.heap.size + 1)) :
    Hung w b I S L h (w5.setCell ⟨b, (h + 1) * 4 + 3, none⟩ v5) := by
  have h11 : h + 1 < 11 := by have := r.hL; have := r.l11; omega
  have l1 := r.lay.held h11 ((S2 (h + 1)).ss ++ [(S h).high % 64])
  generalize hw3 : w2.setCell ⟨b, (h + 1) * 4 + 1, none⟩ (.int .u64 (mask ((S2 (h + 1)).ss ++ [(S h).high % 64]) : Nat)) = w3 at *
  have ga := World.grownBy_alloc w3 ob none
  have l2 := l1.more ga
  have hs3 : w3.heap.size = w2.heap.size := by rw [← hw3, World.size_setCell]
  have hsa : (w3.alloc ob).heap.size = w2.heap.size + 1 := by rw [World.size_alloc, hs3]
  have eV : (upd S2 (h + 1) { S2 (h + 1) with ss := (S2 (h + 1)).ss ++ [(S h).high % 64] } (h + 1)).v = (S2 (h + 1)).v := by rw [upd_same]
  have l3 := l2.append h11 (w1 := w5) (v' := v5) (xs' := (S2 (h + 1)).xs ++ [.pointer (some ⟨nb, 0, none⟩)]) (by rw [eV]; exact hg) (by rw [List.length_append]; exact hown) (by rw [eV, hsa]; exact .inr hat)
  have hoff : off (h + 1) = (h + 1) * 4 + 3 := by rw [off, if_neg (by omega)]
  rw [hoff, upd_same, upd_upd] at l3
  generalize hnew : (⟨(S2 (h + 1)).high, (S2 (h + 1)).ss ++ [(S h).high % 64], v5, (S2 (h + 1)).xs ++ [.pointer (some ⟨nb, 0, none⟩)], (S2 (h + 1)).es ++ (S h).es⟩ : Lv) = new
  have l4 : Lay (w5.setCell ⟨b, (h + 1) * 4 + 3, none⟩ v5) b I2 (upd S2 (h + 1) new) L2 bulk2 := l3.cast (fun k => by
    by_cases e : k = h + 1
    · subst e; rw [upd_same, upd_same, ← hnew]; exact ⟨rfl, rfl, rfl, rfl⟩
    · rw [upd_other _ _ e, upd_other _ _ e]; exact ⟨rfl, rfl, rfl, rfl⟩)
  have hb := r.lay.hb
  have ex2 : Ext I2 w2 I2 (w5.setCell ⟨b, (h + 1) * 4 + 3, none⟩ v5) := by
    refine ⟨fun _ h => h, fun k hk => ?_⟩
    have hkb : k ≠ b := fun e => r.lay.out (e ▸ hk)
    have hkl := r.lay.lt k hk
    rw [Below.heap_setCell _ _ _ _ hkb, hg.block k (by omega) (fun e => r.lay.outr (h + 1) h11 k e.symm hk), ga.block k (by omega) (by simp), ← hw3, Below.heap_setCell _ _ _ _ hkb]
  have be2 : Below b w2 (w5.setCell ⟨b, (h + 1) * 4 + 3, none⟩ v5) := by
    have b1 : Below b w2 w3 := by rw [← hw3]; exact r.lay.below _ _
    refine Below.setCell ?_ (p := ⟨b, _, none⟩) (Nat.le_refl _) _
    exact (b1.trans (below_grown ga (by omega))).grown hg (by omega) (fun k hk => by have := (r.lay.row (h + 1) h11).lt k hk; omega)
  have hn : upd S2 (h + 1) new (h + 1) = new := upd_same _ _ _
  have ho : ∀ j, j ≠ h + 1 → upd S2 (h + 1) new j = S2 j := fun j hj => upd_other _ _ hj
  have hhi : (S2 (h + 1)).high * 64 + (S h).high % 64 = (S h).high := by rw [r.high]; omega
  have hgood : Good I2 (w5.setCell ⟨b, (h + 1) * 4 + 3, none⟩ v5) (upd S2 (h + 1) new) (h + 1) L2 := by
    have gk := r.good.keep ex2
    refine ⟨fun j h1 h2 => ?_, fun j h1 h2 => ?_, fun j h1 h2 => ?_, fun j h1 h2 => ?_, fun j h1 h2 => ?_⟩
    · by_cases e : j = h + 1
      · subst e
        rw [hn, ← hnew]
        obtain ⟨ks, q1, q2, q3, q4, q5⟩ := r.body.keep ex2
        refine ⟨ks ++ [⟨(S h).high % 64, nb, (S h).es⟩], by simp [q1], by simp [q2], ?_, by simp [q4], ?_⟩
        · refine asc_snoc (Nat.mod_lt _ (by omega)) q3 (Nat.zero_le _) (fun x hx => ?_)
          have := r.slots x hx
          omega
        · intro k hk
          rcases List.mem_append.1 hk with hk | hk
          · exact q5 k hk
          · obtain rfl := List.mem_singleton.1 hk
            show TrieOf _ _ _ _ _ ((S2 (h + 1)).high * 64 + (S h).high % 64) _
            rw [hhi]
            exact tr.keep ex2 (fun p ss xs es => Body.keep ex2 h p ss xs es)
      · rw [ho j e]; exact gk.body j (by omega) h2
    · by_cases e : j = h + 1
      · subst e; rw [hn, ← hnew]; simp
      · rw [ho j e]; exact gk.some j (by omega) h2
    · by_cases e : j = h + 1
      · subst e; rw [hn, ← hnew]; exact r.top
      · rw [ho j e]; exact gk.top j (by omega) h2
    · by_cases e : j = h + 1
      · subst e; rw [hn, ho _ (by omega), ← hnew]; exact r.chain h2
      · rw [ho j e, ho (j + 1) (by omega)]; exact gk.chain j (by omega) h2
    · by_cases e : j = h + 1
      · subst e; rw [hn, ho _ (by omega), ← hnew]; exact r.slots2 h2
      · rw [ho j e, ho (j + 1) (by omega)]; exact gk.slots j (by omega) h2
  refine ⟨I2, upd S2 (h + 1) new, L2, bulk2, l4, hgood, r.hL, r.l11, ex.trans ex2, be.trans be2, ?_, ?_, ?_⟩
  · rw [hn, ← hnew]; exact r.high
  · rw [hn, ← hnew]
    intro s hs
    rcases List.mem_append.1 hs with hs | hs
    · exact Nat.le_of_lt (r.slots s hs)
    · obtain rfl := List.mem_singleton.1 hs
      exact Nat.le_of_eq hhi
  · rw [← hcat]
    have hL := r.hL
    obtain ⟨m, hm⟩ : ∃ m, L2 - (h + 1) = m + 1 := ⟨L2 - (h + 1) - 1, by omega⟩
    rw [hm, cat_low, cat_low, hn, ← hnew, cat_alike m (fun j h1 h2 => by rw [upd_other _ _ (by omega)])]
    simp

/-- The state behind 'node' at height h: only the row of level h has turned. -/
theorem Good.node {I I1 : Nat → Prop} {w w1 : World} {S : Nat → Lv} {L h : Nat} (g : Good I w S h L) (ex : Ext I w I1 w1) (v' : Value) (xs' : List Value) : Good I1 w1 (upd S h { S h with v := v', xs := xs' }) (h + 1) L :=
  ((g.up (by omega)).keep ex).alike (fun j hj => upd_other _ _ (by omega))

theorem pow64 (h : Nat) : 64 ^ (h + 2) = 64 ^ (h + 1) * 64 := Nat.pow_succ ..

theorem top_up {hi h : Nat} (t : hi * 64 ^ (h + 1) < 18446744073709551616) : hi / 64 * 64 ^ (h + 2) < 18446744073709551616 := by
  rw [pow64, Nat.mul_comm (64 ^ (h + 1)) 64, ← Nat.mul_assoc]
  exact Nat.lt_of_le_of_lt (Nat.mul_le_mul_right _ (Nat.div_mul_le_self hi 64)) t

theorem top_58 {hi h : Nat} (t : hi * 64 ^ (h + 1) < 18446744073709551616) : hi < 288230376151711744 := by
  have h1 : 64 ^ (h + 1) = 64 ^ h * 64 := Nat.pow_succ ..
  have h2 : 0 < 64 ^ h := Nat.pow_pos (by omega)
  have h3 : hi * 64 ≤ hi * 64 ^ (h + 1) := Nat.mul_le_mul_left _ (by rw [h1]; omega)
  omega

/-- A level above is opened for the first time. -/
theorem ready_new {w w1 : World} {b : Nat} {I I1 : Nat → Prop} {S : Nat → Lv} {h : Nat} {bulk : Bool} {v' : Value} {xs' : List Value} (l : Lay w1 b I1 (upd S h { S h with v := v', xs := xs' }) (h + 1) bulk) (h9 : h ≤ 9)
    (t : (S h).high * 64 ^ (h + 1) < 18446744073709551616) :
    Ready (((((w1.setCell ⟨b, (h + 1) * 4, none⟩ (.int .u64 ((S h).high / 64 : Nat))).setCell ⟨b, (h + 1) * 4 + 1, none⟩ (.int .u64 0)).setCell ⟨b, (h + 1) * 4 + 2, none⟩ (.slice none 0 0)).setCell ⟨b, (h + 1) * 4 + 3, none⟩ (.slice none 0 0)).setCell ⟨b, 44, none⟩ (.int .i64 (h + 2 : Nat))) b I1
      (upd (upd S h { S h with v := v', xs := xs' }) (h + 1) ⟨(S h).high / 64, [], .slice none 0 0, [], []⟩) (h + 2) bulk h (S h).high := by
  have lf := l.fresh (h := h + 1) (by omega) ((S h).high / 64) (World.ownsRow_nil _ _ _ _) (.inl rfl)
  rw [if_neg (by omega)] at lf
  refine ⟨lf.lev (h + 2), ⟨fun j h1 h2 => by omega, fun j h1 h2 => by omega, fun j h1 h2 => by omega, fun j h1 h2 => by omega, fun j h1 h2 => by omega⟩, by omega, by omega, by rw [upd_same], ?_, ?_, fun h => by omega, fun h => by omega, ?_⟩
  · rw [upd_same]; exact ⟨[], rfl, rfl, trivial, rfl, fun k hk => by cases hk⟩
  · rw [upd_same]; exact top_up t
  · rw [upd_same]; intro s hs; cases hs

/-- The level above is the right one. -/
theorem ready_same {w w1 : World} {b : Nat} {I I1 : Nat → Prop} {S : Nat → Lv} {L h : Nat} {bulk : Bool} {v' : Value} {xs' : List Value} (l : Lay w1 b I1 (upd S h { S h with v := v', xs := xs' }) L bulk) (g : Good I w S h L) (ex : Ext I w I1 w1) (hL : h + 1 < L) (l11 : L ≤ 11)
    (he : (S h).high / 64 = (S (h + 1)).high) : Ready w1 b I1 (upd S h { S h with v := v', xs := xs' }) L bulk h (S h).high := by
  have gn := g.node ex v' xs'
  have e1 : upd S h { S h with v := v', xs := xs' } (h + 1) = S (h + 1) := upd_other _ _ (by omega)
  have e2 : upd S h { S h with v := v', xs := xs' } (h + 2) = S (h + 2) := upd_other _ _ (by omega)
  have b1 := gn.body (h + 1) (by omega) hL
  have t1 := gn.top (h + 1) (by omega) hL
  have c1 := fun h2 => gn.chain (h + 1) (by omega) h2
  have s1 := fun h2 => gn.slots (h + 1) (by omega) h2
  refine ⟨l, gn.up (by omega), hL, l11, by rw [e1]; exact he.symm, b1, t1, c1, s1, ?_⟩
  rw [e1]
  exact g.slots h (Nat.le_refl _) hL

/-- The level above was hung and opened anew. -/
theorem ready_anew {w w3 w4 : World} {b : Nat} {I I3 : Nat → Prop} {S S3 : Nat → Lv} {L L3 h : Nat} {bulk3 : Bool} {v4 : Value} (g : Good I w S h L) (hL : h + 1 < L)
    (g3 : Good I3 w3 S3 (h + 2) L3) (hL3 : h + 2 < L3) (l11 : L3 ≤ 11) (hh3 : (S3 (h + 2)).high = (S (h + 1)).high / 64) (hs3 : ∀ s ∈ (S3 (h + 2)).ss, (S3 (h + 2)).high * 64 + s ≤ (S (h + 1)).high)
    (l4 : Lay w4 b I3 (upd S3 (h + 1) ⟨(S h).high / 64, [], v4, [], []⟩) L3 bulk3) (ex : Ext I3 w3 I3 w4) (hne : (S h).high / 64 ≠ (S (h + 1)).high) :
    Ready w4 b I3 (upd S3 (h + 1) ⟨(S h).high / 64, [], v4, [], []⟩) L3 bulk3 h (S h).high := by
  have hc := g.chain h (Nat.le_refl _) hL
  have e2 : upd S3 (h + 1) ⟨(S h).high / 64, [], v4, [], []⟩ (h + 2) = S3 (h + 2) := upd_other _ _ (by omega)
  refine ⟨l4, (g3.keep ex).alike (fun j hj => upd_other _ _ (by omega)), by omega, l11, by rw [upd_same], ?_, ?_, ?_, ?_, ?_⟩
  · rw [upd_same]; exact ⟨[], rfl, rfl, trivial, rfl, fun k hk => by cases hk⟩
  · rw [upd_same]; exact top_up (g.top h (Nat.le_refl _) (by omega))
  · intro _
    rw [upd_same, e2, hh3]
    show (S (h + 1)).high / 64 * 64 ≤ (S h).high / 64
    omega
  · intro _ s hs
    rw [e2] at hs
    rw [upd_same, e2]
    have := hs3 s hs
    show _ < (S h).high / 64
    omega
  · rw [upd_same]; intro s hs; cases hs

theorem cat_new {S : Nat → Lv} {h : Nat} {l1 l2 : Lv} (e : l2.es = []) : cat (upd (upd S h l1) (h + 1) l2) (h + 1) (h + 2 - (h + 1)) ++ (S h).es = cat S h (h + 1 - h) := by
  rw [show h + 2 - (h + 1) = 1 by omega, show h + 1 - h = 1 by omega]
  simp [cat, upd_same, e]

theorem cat_same {S : Nat → Lv} {L h : Nat} {l1 : Lv} (hL : h + 1 < L) : cat (upd S h l1) (h + 1) (L - (h + 1)) ++ (S h).es = cat S h (L - h) := by
  rw [show L - h = (L - (h + 1)) + 1 by omega, cat_low, cat_alike _ (fun j h1 h2 => by rw [upd_other _ _ (by omega)])]

theorem cat_anew {S S3 : Nat → Lv} {L L3 h : Nat} {l1 l4 : Lv} (hL : h + 1 < L) (hL3 : h + 2 < L3) (e : l4.es = []) (hc : cat S3 (h + 2) (L3 - (h + 2)) = cat (upd S h l1) (h + 1) (L - (h + 1))) :
    cat (upd S3 (h + 1) l4) (h + 1) (L3 - (h + 1)) ++ (S h).es = cat S h (L - h) := by
  rw [← cat_same (l1 := l1) hL, ← hc, show L3 - (h + 1) = (L3 - (h + 2)) + 1 by omega, cat_low, upd_same, e, List.append_nil, cat_alike _ (fun j h1 h2 => by rw [upd_other _ _ (by omega)])]

end Go.Proofs.Ybulkojq
