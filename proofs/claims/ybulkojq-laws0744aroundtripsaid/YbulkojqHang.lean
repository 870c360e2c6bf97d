import Derived.Test.YbulkojqReady
import Derived.Deep.CutBlock
set_option linter.unusedVariables false
set_option linter.unusedSimpArgs false
namespace Go.Proofs.Ybulkojq
open Go.RowKit

theorem asc_len : ∀ {ss : List Nat} {lo : Nat}, Asc lo ss → ss.length ≤ 64 - lo
  | [], _, _ => Nat.zero_le _
  | s :: r, lo, h => by
    have h1 := asc_len h.2.2
    have h2 := h.1
    have h3 := h.2.1
    simp
    omega

theorem Body.len {I : Nat → Prop} {w : World} {h p : Nat} {ss : List Nat} {xs : List Value} {es : List Ent} (hb : Body I w h p ss xs es) : xs.length = ss.length := by
  cases h with
  | zero => obtain ⟨h1, h2, _⟩ := hb; rw [h1, h2]; simp
  | succ h => obtain ⟨ks, h1, h2, _⟩ := hb; rw [h1, h2]; simp

theorem ext_b {w : World} {b : Nat} {I : Nat → Prop} {S : Nat → Lv} {L : Nat} {bulk : Bool} (l : Lay w b I S L bulk) {w' : World} (he : Ext I w I w') (hb : Below b w w') (o : Nat) (u : Value) : Ext I w I (w'.setCell ⟨b, o, none⟩ u) ∧ Below b w (w'.setCell ⟨b, o, none⟩ u) := by
  refine ⟨⟨fun _ h => h, fun k hk => ?_⟩, hb.setCell (p := ⟨b, o, none⟩) (Nat.le_refl _) u⟩
  have hkb : k ≠ b := fun e => l.out (e ▸ hk)
  rw [Below.heap_setCell _ _ _ _ hkb]
  exact he.same k hk

theorem ext5 {w : World} {b : Nat} {I : Nat → Prop} {S : Nat → Lv} {L : Nat} {bulk : Bool} (l : Lay w b I S L bulk) (o1 o2 o3 o4 o5 : Nat) (u1 u2 u3 u4 u5 : Value) :
    Ext I w I (((((w.setCell ⟨b, o1, none⟩ u1).setCell ⟨b, o2, none⟩ u2).setCell ⟨b, o3, none⟩ u3).setCell ⟨b, o4, none⟩ u4).setCell ⟨b, o5, none⟩ u5) ∧ Below b w (((((w.setCell ⟨b, o1, none⟩ u1).setCell ⟨b, o2, none⟩ u2).setCell ⟨b, o3, none⟩ u3).setCell ⟨b, o4, none⟩ u4).setCell ⟨b, o5, none⟩ u5) := by
  have e1 := ext_b l (Ext.refl I w) (Below.refl b w) o1 u1
  have e2 := ext_b l e1.1 e1.2 o2 u2
  have e3 := ext_b l e2.1 e2.2 o3 u3
  have e4 := ext_b l e3.1 e3.2 o4 u4
  exact ext_b l e4.1 e4.2 o5 u5

theorem low9 {hi hi1 h : Nat} (h9 : h ≤ 9) (t : hi * 64 ^ (h + 1) < 18446744073709551616) (hc : hi1 * 64 ≤ hi) (hne : hi / 64 ≠ hi1) : h ≤ 8 := by
  by_cases e : h = 9
  · subst e
    have e : (64 : Nat) ^ (9 + 1) = 1152921504606846976 := by decide
    rw [e] at t
    omega
  · omega

/-- What 'hang' does at a height. -/
def HangAt (h : Nat) : Prop := ∀ (w : World) (b : Nat) (I : Nat → Prop) (S : Nat → Lv) (L : Nat) (bulk : Bool), Lay w b I S L bulk → Good I w S h L → h < L → L ≤ 11 →
  Calls Yba.prog 8 #[.pointer (some ⟨b, 0, none⟩), .int .i64 (h : Nat)] w fun e w' => e = .returned (.tuple #[]) ∧ Hung w b I S L h w'

set_option maxHeartbeats 1000000 in
set_option maxRecDepth 100000 in
theorem hang_step {h : Nat} (h9 : h ≤ 9) (ih : h ≤ 8 → HangAt (h + 1)) (hsh : ∀ n : Nat, n < 18446744073709551616 → Op.shift .shl .u64 1 .u64 (bits .and .u64 (n : Nat) 63) = pure (.int .u64 (2 ^ (n % 64) : Nat)))
    (hor : ∀ (ss : List Nat) (s : Nat), Asc 0 ss → s < 64 → (∀ x ∈ ss, x < s) → bits .or .u64 (mask ss : Nat) (2 ^ s : Nat) = (mask (ss ++ [s]) : Nat)) : HangAt h := by
  intro w b I S L bulk l g hL l11
  obtain ⟨i, hi34, hz0, hz1, hz2⟩ := info_parts info34
  have c0 := l.cells (h * 4) (by omega)
  rw [cellv_high _ _ _ (by omega)] at c0
  have c45 : w.cell? ⟨b, 45, none⟩ = some (.bool bulk) := l.cells 45 (by omega)
  have cf := l.froz
  have SH := hsh (S h).high (by have := top_58 (g.top h (Nat.le_refl _) hL); omega)
  obtain ⟨X, hX⟩ : ∃ X, X = 2 ^ ((S h).high % 64) := ⟨_, rfl⟩
  rw [← hX] at SH
  have HX := Hid.mk hX
  clear hX
  have GG := Hid.mk g
  have LL := Hid.mk l
  have IH := Hid.mk ih
  have HOR := Hid.mk hor
  clear g l ih hsh hor
  go_enter Yba.func8, Yba.ntmps8
  go_upto_region 1 with fail
  go_cut [] from 8 (fun W => ∃ bk, W = w.setCell ⟨b, 45, none⟩ (.bool bk))
  case first =>
    cases bulk with
    | true =>
      go_wp2
      go_meet
      case rel => exact ⟨_, rfl⟩
    | false =>
      by_cases h0 : h = 0
      · subst h0
        obtain ⟨a, n, c, c2⟩ : ∃ a n c, w.cell? ⟨b, 2, none⟩ = some (.slice a n c) := by
          have := LL.out.cells 2 (by omega)
          rw [cellv_2] at this
          obtain ⟨hl, ⟨hv, h0⟩ | ⟨g, cap, cur, hv, _⟩⟩ := LL.out.row 0 (by omega)
          · exact ⟨_, _, _, by rw [this, hv]⟩
          · exact ⟨_, _, _, by rw [this, hv]⟩
        go_wp2
        go_meet
        case rel => exact ⟨_, rfl⟩
      · have hd : ((h : Int) == 0) = false := by simp; omega
        go_wp2
        go_meet
        case rel => exact ⟨_, rfl⟩
  case rest =>
    obtain ⟨bk, rfl⟩ := hcut
    have NOD := Hid.mk (node_lay (LL.out.setBulk bk) (h := h) (by omega) ((GG.out.keep (LL.out.extS _ _)).body h (Nat.le_refl _) hL) (GG.out.some h (Nat.le_refl _) hL) (top_58 (GG.out.top h (Nat.le_refl _) hL)))
    go_upto_block 0 with (go_at_call 11; go_must (refine NOD.out.mono ?_); rintro e w2 ⟨nb, rfl, I2, v2, xs2, l2', ex2', tr2', be2'⟩; have l2 := Hid.mk l2'; have ex2 := Hid.mk ((LL.out.extS _ _).trans ex2'); have tr2 := Hid.mk tr2'; have be2 := Hid.mk ((LL.out.below _ _).trans be2'); clear l2' ex2' tr2' be2')
    go_cut [] from 8 (fun W => ∃ I3 S3 L3 bk3, Ready W b I3 S3 L3 bk3 h (S h).high ∧ Ext I w I3 W ∧ Below b w W ∧ TrieOf (Body I3 W h) I3 W h nb (S h).high (S h).es ∧ cat S3 (h + 1) (L3 - (h + 1)) ++ (S h).es = cat S h (L - h))
    case first =>
      have c44 : w2.cell? ⟨b, 44, none⟩ = some (.int .i64 (L : Nat)) := l2.out.cells 44 (by omega)
      have cf2 := l2.out.froz
      by_cases hA : L = h + 1
      · subst hA
        obtain ⟨u0, q0⟩ : ∃ u, w2.cell? ⟨b, (h + 1) * 4, none⟩ = some u := ⟨_, l2.out.cells _ (by omega)⟩
        obtain ⟨u1, q1⟩ : ∃ u, w2.cell? ⟨b, (h + 1) * 4 + 1, none⟩ = some u := ⟨_, l2.out.cells _ (by omega)⟩
        obtain ⟨u2, q2⟩ : ∃ u, w2.cell? ⟨b, (h + 1) * 4 + 2, none⟩ = some u := ⟨_, l2.out.cells _ (by omega)⟩
        obtain ⟨u3, q3⟩ : ∃ u, w2.cell? ⟨b, (h + 1) * 4 + 3, none⟩ = some u := ⟨_, l2.out.cells _ (by omega)⟩
        go_wp2
        go_meet
        case rel =>
          have r := ready_new (w := w) (I := I) l2.out h9 (GG.out.top h (Nat.le_refl _) hL)
          have e1 : ((S h).high : Int) / 64 = ((S h).high / 64 : Nat) := by omega
          have e2 : (h : Int) + 2 = (h + 2 : Nat) := by omega
          rw [e1, e2]
          have ee := ext5 l2.out ((h + 1) * 4) ((h + 1) * 4 + 1) ((h + 1) * 4 + 2) ((h + 1) * 4 + 3) 44 (.int .u64 ((S h).high / 64 : Nat)) (.int .u64 0) (.slice none 0 0) (.slice none 0 0) (.int .i64 (h + 2 : Nat))
          exact ⟨_, _, _, _, r, ex2.out.trans ee.1, be2.out.trans ee.2, tr2.out.keep ee.1 (fun p ss xs es => Body.keep ee.1 h p ss xs es), cat_new rfl⟩
      · have hB : h + 1 < L := by omega
        have ch : w2.cell? ⟨b, (h + 1) * 4, none⟩ = some (.int .u64 ((S (h + 1)).high : Nat)) := by
          rw [l2.out.cells _ (by omega), cellv_high _ _ _ (by omega), upd_other _ _ (by omega)]
        have hA' : ¬ ((h : Int) + 1 = (L : Int)) := by omega
        by_cases hE : (S h).high / 64 = (S (h + 1)).high
        · have hE' : ((S h).high : Int) / 64 = ((S (h + 1)).high : Int) := by omega
          go_wp2
          go_meet
          case rel =>
            exact ⟨_, _, _, _, ready_same l2.out GG.out ex2.out hB l11 hE, ex2.out, be2.out, tr2.out, cat_same hB⟩
        · have hE' : ¬ (((S h).high : Int) / 64 = ((S (h + 1)).high : Int)) := by omega
          have h8 := low9 h9 (GG.out.top h (Nat.le_refl _) hL) (GG.out.chain h (Nat.le_refl _) hB) hE
          have CH := Hid.mk (IH.out h8 w2 b I2 _ L bk l2.out (GG.out.node ex2.out v2 xs2) hB l11)
          have ec : ((h + 1 : Nat) : Int) = (h : Int) + 1 := by omega
          rw [ec] at CH
          go_wp2_with (first | (go_at_call 8; go_must (refine CH.out.mono ?_); rintro e w3 ⟨rfl, I3, S3, L3, bk3, l3', g3', hL3, l113, ex3', be3', hh3, hs3', hcat3'⟩; have l3 := Hid.mk l3'; have g3 := Hid.mk g3'; have ex3 := Hid.mk ex3'; have be3 := Hid.mk be3'; have hs3 := Hid.mk hs3'; have hcat3 := Hid.mk hcat3'; have HH3 := Hid.mk hh3; clear l3' g3' ex3' be3' hs3' hcat3' hh3) | (go_at_call 9; have RO := Hid.mk (reopen_lay l3.out (h := h + 1) (by omega) ((S h).high / 64)); go_must (refine RO.out.mono ?_); rintro e w4 ⟨rfl, v4, l4', ex4', be4'⟩; have l4 := Hid.mk l4'; have ex4 := Hid.mk ex4'; have be4 := Hid.mk be4'; clear l4' ex4' be4'))
          go_meet
          case rel =>
            have u1 : upd S h { S h with v := v2, xs := xs2 } (h + 1) = S (h + 1) := upd_other _ _ (by omega)
            have hh3 := HH3.out
            have hs3' := hs3.out
            rw [u1] at hh3 hs3'
            have exx := ex2.out.trans (ex3.out.trans ex4.out)
            have ext := ex3.out.trans ex4.out
            exact ⟨_, _, _, _, ready_anew GG.out hB g3.out hL3 l113 hh3 hs3' l4.out ex4.out hE, exx, be2.out.trans (be3.out.trans be4.out), tr2.out.keep ext (fun p ss xs es => Body.keep ext h p ss xs es), cat_anew hB hL3 rfl hcat3.out⟩
    case rest =>
      obtain ⟨I3, S3, L3, bk3, r, ex3', be3', tr3', hcat3'⟩ := hcut
      have h11 : h + 1 < 11 := by have := r.hL; have := r.l11; omega
      have d1 : wc.cell? ⟨b, (h + 1) * 4 + 1, none⟩ = some (.int .u64 (mask (S3 (h + 1)).ss : Nat)) := by rw [r.lay.cells _ (by omega), cellv_held _ _ _ h11]
      have d3 : wc.cell? ⟨b, (h + 1) * 4 + 3, none⟩ = some (S3 (h + 1)).v := by rw [r.lay.cells _ (by omega), cellv_kid _ _ _ h11 (by omega)]
      have cf3 := r.lay.froz
      have hlen : (S3 (h + 1)).xs.length ≤ 64 := by rw [r.body.len]; exact asc_len r.body.asc
      have hor := HOR.out (S3 (h + 1)).ss ((S h).high % 64) r.body.asc (Nat.mod_lt _ (by omega)) (fun x hx => by have := r.slots x hx; have := r.high; omega)
      rw [← HX.out] at hor
      have HOWN := Hid.mk (r.lay.row (h + 1) h11)
      have hgeb := own_ge r.lay h11
      have R := Hid.mk r
      have ex3 := Hid.mk ex3'
      have be3 := Hid.mk be3'
      have tr3 := Hid.mk tr3'
      have hcat3 := Hid.mk hcat3'
      have hbl := r.lay.hb
      clear r ex3' be3' tr3' hcat3' HOR
      have hHOR := Hid.mk hor
      generalize hvv : (S3 (h + 1)).v = vv at *
      generalize hmm : ((mask ((S3 (h + 1)).ss ++ [(S h).high % 64]) : Nat) : Int) = mm at *
      go_wp2_with (at_builtin; go_must (refine wpList_append_own_at _ rfl (.tmp 107) (.tmp 109) 25 rfl (b + 1) 34 i (.pointer none) 1 8 Yba.underlying25 hi34 hz0 hz1 hz2 rfl (by omega) vv (S3 (h + 1)).xs.length (S3 (h + 1)).xs rfl ?a1 ⟨wc.heap.size, 0, none⟩ 1 1 [.pointer (some ⟨nb, 0, none⟩)] rfl rfl ?a2 (by intro u hu; simp at hu; subst hu; rfl) (by unfold maxLen; omega) (by omega) ?a3 ?_))
      case a1 => exact (ownsRow_setCell_below HOWN.out (show b < b + 1 by omega) _).alloc _
      case a2 =>
        intro j u hj
        match j, hj with
        | 0, hj =>
          simp at hj
          subst hj
          go_simp
      case a3 => go_simp; omega
      intro v5 w5 hown hgr hnil hat
      have hgr' := hgr
      have d3' : w5.cell? ⟨b, (h + 1) * 4 + 3, none⟩ = some vv := by
        rw [cell_grown hgr' (by simp; omega) hgeb]
        go_simp
      have f3 : w5.frozen? ⟨b, (h + 1) * 4 + 3, none⟩ = false := by
        rw [World.frozen?_of_block (hgr'.block b (by simp; omega) hgeb)]
        go_simp
      obtain ⟨g5, c5, rfl⟩ : ∃ g5 c5, v5 = .slice (some ⟨g5, 0, none⟩) ((S3 (h + 1)).xs.length + 1) c5 := by
        obtain ⟨_, ⟨_, h0⟩ | ⟨g, cap, cur, e, _⟩⟩ := hown
        · omega
        · exact ⟨g, cap, e⟩
      have OWN := Hid.mk hown
      have HAT := Hid.mk hat
      have HGR := Hid.mk hgr
      clear hown hat hgr hgr' hnil
      go_wp2
      go_end0
      refine ⟨rfl, ?_⟩
      have hgr := HGR.out
      rw [← hmm, ← hvv] at hgr
      have hat := HAT.out
      rw [← hvv] at hat
      exact ready_hung R.out ex3.out be3.out tr3.out hcat3.out hgr OWN.out (by simpa using hat)
end Go.Proofs.Ybulkojq
