import Derived.Test.YbulkojqReady0
import Derived.Deep.CutBlock
set_option linter.unusedVariables false
set_option linter.unusedSimpArgs false
namespace Go.Proofs.Ybulkojq
open Go.RowKit

set_option maxHeartbeats 400000 in
/-- 'trieSlot' at height 0. -/
theorem trieSlot0 (seq : Nat) (w : World) (hs : bits .and .u64 (seq : Nat) 63 = (seq % 64 : Nat)) :
    Calls Yba.prog 10 #[.int .u64 (seq : Nat), .int .i64 0] w fun e w' => e = .returned (.int .u64 (seq % 64 : Nat)) ∧ w' = w := by
  go_enter Yba.func10, Yba.ntmps10
  go_wp2
  go_ret
  exact ⟨by simp [hs], rfl⟩

set_option maxHeartbeats 1000000 in
set_option maxRecDepth 100000 in
/-- 'add'. -/
theorem add_walk {w : World} {b : Nat} {I : Nat → Prop} {S : Nat → Lv} {L : Nat} {bulk : Bool} {E : List Ent} (k : Built w b I S L bulk E) (seq v : Nat) (hseq : seq < 18446744073709551616) (hE : ∀ e ∈ E, e.1 < seq)
    (hsl : bits .and .u64 (seq : Nat) 63 = (seq % 64 : Nat)) (hsh : Op.shift .shl .u64 1 .u64 (seq % 64 : Nat) = pure (.int .u64 (2 ^ (seq % 64) : Nat))) :
    Calls Yba.prog 5 #[.pointer (some ⟨b, 0, none⟩), .int .u64 (seq : Nat), .int .i64 (v : Nat)] w fun e w' => e = .returned (.tuple #[]) ∧ ∃ I' S' L' bulk', Built w' b I' S' L' bulk' (E ++ [(seq, v)]) ∧ Below b w w' := by
  obtain ⟨i, hi33, hz0, hz1, hz2⟩ := info_parts inf33
  obtain ⟨X, hX⟩ : ∃ X, X = 2 ^ (seq % 64) := ⟨_, rfl⟩
  obtain ⟨Y, hY⟩ : ∃ Y, Y = seq % 64 := ⟨_, rfl⟩
  have TS := Hid.mk (fun W => trieSlot0 seq W hsl)
  rw [← hX, ← hY] at hsh
  rw [← hY] at TS
  have HX := Hid.mk hX
  have HY := Hid.mk hY
  clear hX hY hsl
  have c44 : w.cell? ⟨b, 44, none⟩ = some (.int .i64 (L : Nat)) := k.lay.cells 44 (by omega)
  have c0 : w.cell? ⟨b, 0, none⟩ = some (.int .u64 ((S 0).high : Nat)) := k.lay.cells 0 (by omega)
  have cf := k.lay.froz
  have KK := Hid.mk k
  have HE := Hid.mk hE
  clear k hE
  go_enter Yba.func5, Yba.ntmps5
  go_upto_block 0 with fail
  go_cut [] from 8 (fun W => ∃ I1 S1 L1 bk1, Ready0 W b I1 S1 L1 bk1 seq E ∧ Below b w W)
  case first =>
    by_cases hA : L = 0
    · subst hA
      obtain ⟨u1, q1⟩ : ∃ u, w.cell? ⟨b, 1, none⟩ = some u := ⟨_, KK.out.lay.cells _ (by omega)⟩
      obtain ⟨u2, q2⟩ : ∃ u, w.cell? ⟨b, 2, none⟩ = some u := ⟨_, KK.out.lay.cells _ (by omega)⟩
      obtain ⟨u3, q3⟩ : ∃ u, w.cell? ⟨b, 3, none⟩ = some u := ⟨_, KK.out.lay.cells _ (by omega)⟩
      go_wp2
      go_meet
      case rel =>
        have e1 : (seq : Int) / 64 = (seq / 64 : Nat) := by omega
        rw [e1]
        have ee := ext5 KK.out.lay 0 1 2 3 44 (.int .u64 (seq / 64 : Nat)) (.int .u64 0) (.slice none 0 0) (.slice none 0 0) (.int .i64 (1 : Nat))
        exact ⟨_, _, _, _, ready0_new KK.out, ee.2⟩
    · have hA' : ¬ ((L : Int) = 0) := by omega
      by_cases hq : seq / 64 = (S 0).high
      · have hq' : (seq : Int) / 64 = ((S 0).high : Int) := by omega
        go_wp2
        go_meet
        case rel => exact ⟨_, _, _, _, ready0_same KK.out (by omega) hq HE.out, Below.refl _ _⟩
      · have hq' : ¬ ((seq : Int) / 64 = ((S 0).high : Int)) := by omega
        have CH := Hid.mk (hang (h := 0) (by omega) w b I S L bulk KK.out.lay KK.out.good (by omega) KK.out.l11)
        go_wp2_with (first | (go_at_call 8; go_must (refine CH.out.mono ?_); rintro e w3 ⟨rfl, I3, S3, L3, bk3, l3', g3', hL3, l113, ex3', be3', hh3, hs3', hcat3'⟩; have l3 := Hid.mk l3'; have g3 := Hid.mk g3'; have ex3 := Hid.mk ex3'; have be3 := Hid.mk be3'; have hs3 := Hid.mk hs3'; have hcat3 := Hid.mk hcat3'; have HH3 := Hid.mk hh3; clear l3' g3' ex3' be3' hs3' hcat3' hh3) | (go_at_call 9; have RO := Hid.mk (reopen_lay l3.out (h := 0) (by omega) (seq / 64)); go_must (refine RO.out.mono ?_); rintro e w4 ⟨rfl, v4, l4', ex4', be4'⟩; have l4 := Hid.mk l4'; have ex4 := Hid.mk ex4'; have be4 := Hid.mk be4'; clear l4' ex4' be4'))
        go_meet
        case rel =>
          exact ⟨_, _, _, _, ready0_anew KK.out (by omega) HE.out hq g3.out hL3 l113 HH3.out hs3.out hcat3.out l4.out ex4.out, be3.out.trans be4.out⟩
  case rest =>
    rename World => w1
    obtain ⟨I1, S1, L1, bk1, r1', be1'⟩ := hcut
    have R1 := Hid.mk r1'
    have be1 := Hid.mk be1'
    obtain ⟨a2, n2, k2, hv2⟩ : ∃ a n c, (S1 0).v = .slice a n c := by
      obtain ⟨_, ⟨hv, _⟩ | ⟨g, cap, cur, hv, _⟩⟩ := r1'.lay.row 0 (by omega)
      · exact ⟨_, _, _, hv⟩
      · exact ⟨_, _, _, hv⟩
    have d2 : w1.cell? ⟨b, 2, none⟩ = some (.slice a2 n2 k2) := by rw [r1'.lay.cells 2 (by omega), cellv_2, hv2]
    have d45 : w1.cell? ⟨b, 45, none⟩ = some (.bool bk1) := r1'.lay.cells 45 (by omega)
    have cf1 := r1'.lay.froz
    have HV2 := Hid.mk hv2
    clear r1' be1' hv2 c44 c0 cf
    have heq := eql24
    go_upto_region 7 with fail
    go_cut [53] from 8 (fun s53 W => s53 = .bool (a2.isNone && bk1) ∧ W = w1)
    case first =>
      cases a2 with
      | none =>
        go_wp2
        go_meet
        case rel => exact ⟨rfl, rfl⟩
      | some a2 =>
        go_wp2
        go_meet
        case rel => exact ⟨rfl, rfl⟩
    case rest =>
      obtain ⟨rfl, rfl⟩ := hcut
      rename World => w1
      go_upto_if 53 with fail
      go_cut [] from 8 (fun W => ∃ I1 S1 L1 bk1, Ready0 W b I1 S1 L1 bk1 seq E ∧ Below b w W)
      case first =>
        by_cases hm : (a2.isNone && bk1) = true
        · have HM := Hid.mk hm
          rw [hm]
          go_wp2_with (at_make; go_must (refine wpList_make_own _ rfl _ _ 24 rfl (b + 1) 33 i (.int .i64 0) 1 Yba.underlying24 hi33 hz0 hz1 _ _ _ 64 rfl rfl rfl (by rw [hz2]; omega) (by unfold maxLen; omega) (by have := R1.out.lay.hb; omega) ?_))
          intro w2 hown hgr
          have hbl := R1.out.lay.hb
          have e2 : w2.cell? ⟨b, 2, none⟩ = some (.slice a2 n2 k2) := by rw [cell_grown hgr hbl (by simp)]; exact d2
          have f2 : w2.frozen? ⟨b, 2, none⟩ = false := by rw [World.frozen?_of_block (hgr.block b hbl (by simp))]; exact cf1 2
          have OWN := Hid.mk hown
          have GR := Hid.mk hgr
          clear hown hgr
          go_wp2
          go_meet
          case rel =>
            have hx : (S1 0).xs = [] := by
              have ha : a2 = none := by
                have := HM.out
                cases a2 with
                | none => rfl
                | some x => simp at this
              obtain ⟨_, ⟨_, h0⟩ | ⟨g, cap, cur, hv, _⟩⟩ := R1.out.lay.row 0 (by omega)
              · exact List.eq_nil_of_length_eq_zero h0
              · rw [HV2.out, ha] at hv; cases hv
            have rr := ready0_make R1.out hx GR.out OWN.out
            refine ⟨_, _, _, _, rr, ?_⟩
            exact be1.out.trans ((below_grown (B := b) GR.out (by omega)).setCell (p := ⟨b, 2, none⟩) (Nat.le_refl _) _)
        · have hm' : (a2.isNone && bk1) = false := by simpa using hm
          rw [hm']
          go_wp2
          go_meet
          case rel => exact ⟨_, _, _, _, R1.out, be1.out⟩
      case rest =>
        rename World => wf
        obtain ⟨I1, S1, L1, bk1, r', be'⟩ := hcut
        have d1 : wf.cell? ⟨b, 1, none⟩ = some (.int .u64 (mask (S1 0).ss : Nat)) := r'.lay.cells 1 (by omega)
        have d2 : wf.cell? ⟨b, 2, none⟩ = some (S1 0).v := r'.lay.cells 2 (by omega)
        have cf3 := r'.lay.froz
        have hlen : (S1 0).xs.length ≤ 64 := by rw [r'.body.len]; exact asc_len r'.body.asc
        have hor := slot_or (S1 0).ss (seq % 64) r'.body.asc (Nat.mod_lt _ (by omega)) (fun x hx => r'.slots x hx)
        rw [← HX.out] at hor
        have HOWN := Hid.mk (r'.lay.row 0 (by omega))
        have hgeb := own_ge r'.lay (h := 0) (by omega)
        have hbl := r'.lay.hb
        have R := Hid.mk r'
        have be := Hid.mk be'
        clear r' be' R1 be1 HV2 heq
        generalize hvv : (S1 0).v = vv at *
        generalize hmm : ((mask ((S1 0).ss ++ [seq % 64]) : Nat) : Int) = mm at *
        have HVV := Hid.mk hvv
        have HMM := Hid.mk hmm
        clear hvv hmm
        go_upto_region 9 with fail
        go_cut [] from 8 (fun W => ∃ m, W = (wf.setCell ⟨b, 1, none⟩ (.int .u64 mm)).drewN m)
        case first =>
          go_region_with (go_at_call 10; go_must (refine (TS.out _).mono ?_); rintro e w' ⟨rfl, rfl⟩)
          all_goals
            go_wp2
            go_meet
            case rel => exact ⟨_, rfl⟩
        case rest =>
          rename World => wg
          obtain ⟨m, hwm⟩ := hcut
          have d2' : wg.cell? ⟨b, 2, none⟩ = some vv := by
            rw [hwm]
            show (wf.setCell _ _).cell? _ = _
            rw [sc_cell d1]
            exact d2
          have hsz : wg.heap.size = wf.heap.size := by rw [hwm]; show (wf.setCell _ _).heap.size = _; rw [World.size_setCell]
          have cfg : ∀ o, wg.frozen? ⟨b, o, none⟩ = false := by
            intro o
            rw [hwm]
            show (wf.setCell _ _).frozen? _ = _
            rw [World.frozen?_setCell]
            exact cf3 o
          have OWN1 : Hid (wg.ownsRow (b + 1) 33 1 vv (S1 0).xs.length (S1 0).xs) := Hid.mk (by
            rw [hwm]
            have := (ownsRow_setCell_below HOWN.out (show (⟨b, 1, none⟩ : Addr).block < b + 1 from Nat.lt_succ_self b) (.int .u64 mm)).kept (grown_drewN _ m) (by
              by_cases e : vv.ownBlock = none
              · exact .inl e
              · exact .inr e)
            exact this)
          have HWM := Hid.mk hwm
          have hbg : b < wg.heap.size := by omega
          have HSZ := Hid.mk hsz
          clear hwm d1 d2 cf3 hsz
          go_wp2_with (at_builtin; go_must (refine wpList_append_own_at _ rfl (.tmp 72) (.tmp 74) 24 rfl (b + 1) 33 i (.int .i64 0) 1 8 Yba.underlying24 hi33 hz0 hz1 hz2 rfl (by omega) vv (S1 0).xs.length (S1 0).xs rfl ?a1 ⟨wg.heap.size, 0, none⟩ 1 1 [.int .i64 (v : Nat)] rfl rfl ?a2 (by intro u hu; simp at hu; subst hu; rfl) (by unfold maxLen; omega) (by omega) ?a3 ?_))
          case a1 => exact OWN1.out.alloc _
          case a2 =>
            intro j u hj
            match j, hj with
            | 0, hj =>
              simp at hj
              subst hj
              go_simp
          case a3 => go_simp; omega
          intro v5 w5 hown hgr hnil hat
          have e2 : w5.cell? ⟨b, 2, none⟩ = some vv := by
            rw [cell_grown hgr (by simp; omega) hgeb]
            go_simp
          have f2 : w5.frozen? ⟨b, 2, none⟩ = false := by
            rw [World.frozen?_of_block (hgr.block b (by simp; omega) hgeb)]
            go_simp
          obtain ⟨g5, c5, rfl⟩ : ∃ g5 c5, v5 = .slice (some ⟨g5, 0, none⟩) ((S1 0).xs.length + 1) c5 := by
            obtain ⟨_, ⟨_, h0⟩ | ⟨g, cap, cur, e, _⟩⟩ := hown
            · omega
            · exact ⟨g, cap, e⟩
          have OWN := Hid.mk hown
          have HAT := Hid.mk hat
          have HGR := Hid.mk hgr
          clear hown hat hgr hnil
          go_wp2
          go_end0
          have hgr := HGR.out
          have hat := HAT.out
          have hwm := HWM.out
          rw [← HVV.out] at hgr hat
          rw [← HMM.out] at hwm
          obtain ⟨S', hb', hbe'⟩ := ready0_built R.out hseq hwm hgr OWN.out (by rw [← HSZ.out]; simpa using hat)
          exact ⟨rfl, _, _, _, _, hb', be.out.trans hbe'⟩
end Go.Proofs.Ybulkojq
