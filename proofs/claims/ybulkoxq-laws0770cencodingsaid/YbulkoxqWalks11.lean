import Derived.Test.YbulkoxqWalks6
set_option linter.unusedVariables false
set_option linter.unusedSimpArgs false
namespace Go.Proofs.Ybulkoxq
open Go.RowKit

set_option maxRecDepth 100000 in
set_option maxHeartbeats 4000000 in
theorem model_z2 (po vo ho dob fo : Option Addr) (pn pc vm vc hm hc dm dc fm fc : Nat) (pds vds hds dds : List UInt8) (key : ByteArray) (x y cl dx dy : Nat) (tag non dtag dnon ddig : List UInt8)
    (hpn : pn ≤ 1024) (hk : key.size ≤ 1024) (hx : x < 18446744073709551616) (hy : y < 18446744073709551616) (ht : tag.length = 32) (hn : non.length = 32) (hvm : vm ≤ 1024) (hhm : hm ≤ 1024) (hfm : fm ≤ 1024) (hcl : cl < 18446744073709551616)
    (hdx : dx < 18446744073709551616) (hdy : dy < 18446744073709551616) (hdt : dtag.length = 32) (hdn : dnon.length = 32) (hdg : ddig.length = 32) (hdm : dm ≤ 1024)
    (w : World) (hp : By w w.heap.size po pn pc pds) (hv : Dg w w.heap.size vo vm vds) (hh : Dg w w.heap.size ho hm hds) (hd : Dg w w.heap.size dob dm dds) (H1 : Hid (dx = 0)) (H2 : Hid (dy = 0)) (H3 : Hid (dtag = List.replicate 32 0)) :
    Calls Yba.prog 9 #[.agg (argL (.slice po pn pc) key x y tag non (.slice vo vm vc) cl (.slice ho hm hc) true dx dy dtag dnon ddig (.slice dob dm dc) (.slice fo fm fc)).toArray] w fun e w' => ∃ N v', e = .returned v' ∧ w'.ownsRow (w.heap.size + 1) 5 1 v' N (Lib.byteCells pds ++ bodyL key x y tag non vm vds cl hm hds (optL dx dy dtag dnon ddig dm dds) fm) ∧ Below w.heap.size w w' := by
  have l0 : Hid (∀ W, Below (w.heap.size + 1) (w.alloc (.cells (argL (.slice po pn pc) key x y tag non (.slice vo vm vc) cl (.slice ho hm hc) true dx dy dtag dnon ddig (.slice dob dm dc) (.slice fo fm fc)).toArray 27)) W → Arg W w.heap.size (.slice po pn pc) key x y tag non (.slice vo vm vc) cl (.slice ho hm hc) true dx dy dtag dnon ddig (.slice dob dm dc) (.slice fo fm fc)) := Hid.mk (by
    intro W h
    refine Arg.mk' ht hn hdt hdn hdg ?_
    rw [h.block _ (by omega)]
    exact heap_alloc_new w _)
  have l6 : Hid (∀ W, Below (w.heap.size + 1) (w.alloc (.cells (argL (.slice po pn pc) key x y tag non (.slice vo vm vc) cl (.slice ho hm hc) true dx dy dtag dnon ddig (.slice dob dm dc) (.slice fo fm fc)).toArray 27)) W → By W (w.heap.size + 1) po pn pc pds ∧ Dg W (w.heap.size + 1) vo vm vds ∧ Dg W (w.heap.size + 1) ho hm hds ∧ Dg W (w.heap.size + 1) dob dm dds ∧ w.heap.size + 1 ≤ W.heap.size ∧ Below w.heap.size w W) := Hid.mk (by
    intro W h
    have h1 : Below w.heap.size w W := ((Below.refl _ w).alloc (Nat.le_refl _) _).trans (h.mono (by omega))
    refine ⟨hp.later h1 (by omega), hv.later h1 (by omega), hh.later h1 (by omega), hd.later h1 (by omega), ?_, h1⟩
    have := h.size
    simp at this
    omega)
  have u1 : Hid (∀ m, (uvl m).length ≤ 2) := Hid.mk (by intro m; unfold uvl; split <;> simp)
  have HT := Hid.mk ht
  have HN := Hid.mk hn
  have HDT := Hid.mk hdt
  have HDN := Hid.mk hdn
  have HDG := Hid.mk hdg
  have b0 := Hid.mk (Below.refl (w.heap.size + 1) (w.alloc (.cells (argL (.slice po pn pc) key x y tag non (.slice vo vm vc) cl (.slice ho hm hc) true dx dy dtag dnon ddig (.slice dob dm dc) (.slice fo fm fc)).toArray 27)))
  have q0 := (l0.out _ b0.out).pre
  have y0 := Hid.mk (l6.out _ b0.out).1
  have own0 := Hid.mk (World.ownsRow_nil (w.alloc (.cells (argL (.slice po pn pc) key x y tag non (.slice vo vm vc) cl (.slice ho hm hc) true dx dy dtag dnon ddig (.slice dob dm dc) (.slice fo fm fc)).toArray 27)) (w.heap.size + 1) 5 1)
  have o8 : Hid (optL dx dy dtag dnon ddig dm dds = [.int .u8 0]) := Hid.mk (by simp [optL, show tz dx dy dtag = true from by simp [tz, H1.out, H2.out, H3.out]])
  generalize hL : (argL (.slice po pn pc) key x y tag non (.slice vo vm vc) cl (.slice ho hm hc) true dx dy dtag dnon ddig (.slice dob dm dc) (.slice fo fm fc)).toArray = L at l0 l6 b0 own0 q0 y0
  generalize hO : optL dx dy dtag dnon ddig dm dds = O at o8
  clear hL hO hp hv hh hd ht hn hdt hdn hdg
  go_enter Yba.func9, Yba.ntmps9
  go_wp2_with (first | (refine app rfl (.const (.slice none 0 0)) (.tmp 11) rfl (w.heap.size + 1) _ 0 [] rfl own0.out po pn pc (Lib.byteCells pds) rfl (by rw [Lib.byteCells_length]; exact y0.out.len) y0.out.none (by intro ad had j u hu; exact (y0.out.lies ad had j u hu).2) (byteCells_one _) (by omega) (by simp) ?_; intro v1 w1 ho1 ha1; have HO1 := Hid.mk ho1; have HB1 := Hid.mk (b0.out.trans (ha1.below (by simp) (own_ge own0.out))); have hB1 := (l6.out _ HB1.out).2.2.2.2.1; have q1 := (l0.out _ HB1.out).key; clear ho1 ha1 own0 q0 y0))
  refine (uv18 _ _ key.size hk v1 _ w1 HO1.out hB1 (by omega)).mono ?_
  rintro e w2 ⟨v2, rfl, ho2, ha2⟩
  have HO2 := Hid.mk ho2
  have HB2 := Hid.mk (HB1.out.trans (ha2.below hB1 (own_ge HO1.out)))
  have hB2 := (l6.out _ HB2.out).2.2.2.2.1
  have k1 := u1.out key.size
  have q2 := (l0.out _ HB2.out).key
  clear ho2 ha2 HO1 HB1 hB1 q1
  go_wp2_with (first | (refine app_str rfl (.tmp 19) (.tmp 21) rfl (w.heap.size + 1) _ _ _ rfl HO2.out key rfl (by omega) hB2 ?_; intro v3 w3 ho3 hb3; have HO3 := Hid.mk ho3; have HB3 := Hid.mk (HB2.out.trans hb3); have hB3 := (l6.out _ HB3.out).2.2.2.2.1; have q3 := (l0.out _ HB3.out).x; clear ho3 hb3 HO2 HB2 hB2 q2))
  refine (be19 _ _ x hx v3 _ w3 HO3.out hB3 (by omega)).mono ?_
  rintro e w4 ⟨v4, rfl, ho4, ha4⟩
  have HO4 := Hid.mk ho4
  have HB4 := Hid.mk (HB3.out.trans (ha4.below hB3 (own_ge HO3.out)))
  have hB4 := (l6.out _ HB4.out).2.2.2.2.1
  have q4 := (l0.out _ HB4.out).y
  clear ho4 ha4 HO3 HB3 hB3 q3
  go_wp2_with fail
  refine (be19 _ _ y hy v4 _ w4 HO4.out hB4 (by omega)).mono ?_
  rintro e w5 ⟨v5, rfl, ho5, ha5⟩
  have HO5 := Hid.mk ho5
  have HB5 := Hid.mk (HB4.out.trans (ha5.below hB4 (own_ge HO4.out)))
  have hB5 := (l6.out _ HB5.out).2.2.2.2.1
  have q5 := Hid.mk (l0.out _ HB5.out).tag
  clear ho5 ha5 HO4 HB4 hB4 q4
  go_wp2_with (first | (refine app rfl (.tmp 31) (.tmp 33) rfl (w.heap.size + 1) _ _ _ rfl HO5.out _ 32 32 (Lib.byteCells tag) rfl (by rw [Lib.byteCells_length]; exact HT.out) (by intro h; cases h) (by intro ad had; cases had; exact q5.out) (byteCells_one _) (by omega) hB5 ?_; intro v6 w6 ho6 ha6; have HO6 := Hid.mk ho6; have HB6 := Hid.mk (HB5.out.trans (ha6.below hB5 (own_ge HO5.out))); have hB6 := (l6.out _ HB6.out).2.2.2.2.1; have q6 := Hid.mk (l0.out _ HB6.out).non; clear ho6 ha6) | (refine app rfl (.tmp 35) (.tmp 37) rfl (w.heap.size + 1) _ _ _ rfl HO6.out _ 32 32 (Lib.byteCells non) rfl (by rw [Lib.byteCells_length]; exact HN.out) (by intro h; cases h) (by intro ad had; cases had; exact q6.out) (byteCells_one _) (by omega) hB6 ?_; intro v7 w7 ho7 ha7; have HO7 := Hid.mk ho7; have HB7 := Hid.mk (HB6.out.trans (ha7.below hB6 (own_ge HO6.out))); have hB7 := (l6.out _ HB7.out).2.2.2.2.1; have q7 := (l0.out _ HB7.out).vec; clear ho7 ha7))
  clear HO5 HB5 hB5 q5 HO6 HB6 hB6 q6
  refine (uv18 _ _ vm hvm v7 _ w7 HO7.out hB7 (by omega)).mono ?_
  rintro e w8 ⟨v8, rfl, ho8, ha8⟩
  have HO8 := Hid.mk ho8
  have HB8 := Hid.mk (HB7.out.trans (ha8.below hB7 (own_ge HO7.out)))
  have k2 := u1.out vm
  clear ho8 ha8 HO7 HB7 hB7 q7
  go_wp2_with fail
  have e8 : ∃ n8 X8, n8 ≤ 10000 ∧ w8.ownsRow (w.heap.size + 1) 5 1 v8 n8 X8 ∧ X8 = Lib.byteCells pds ++ (uvl key.size ++ (Lib.byteCells key.data.toList ++ (bel x ++ (bel y ++ (Lib.byteCells tag ++ (Lib.byteCells non ++ uvl vm)))))) := ⟨_, _, by omega, HO8.out, by simp [List.append_assoc, Lib.strCells_eq]⟩
  obtain ⟨n8, X8, hn8, ho8, hX8⟩ := e8
  have HO9 := Hid.mk ho8
  have HX8 := Hid.mk hX8
  clear ho8 hX8 HO8
  go_loopw [3, 4] (fun ve vi wr => ∃ k : Nat, k ≤ vm ∧ vi = .int .i64 k ∧ wr.ownsRow (w.heap.size + 1) 5 1 ve (n8 + k * 32) (X8 ++ Lib.byteCells (vds.take (k * 32))) ∧ Below (w.heap.size + 1) (w.alloc (.cells L 27)) wr) (fun _ vi _ => vm - (intOf vi).toNat)
  case atStart => exact ⟨0, by omega, rfl, by simpa [Lib.byteCells] using HO9.out, HB8.out⟩
  case round =>
    obtain ⟨k, hk', rfl, hor, hbr⟩ := hrel
    have HOr := Hid.mk hor
    have HBr := Hid.mk hbr
    have hBr := (l6.out _ hbr).2.2.2.2.1
    have qv := (l0.out _ hbr).vec
    have HD := Hid.mk (l6.out _ hbr).2.1
    clear hor hbr HO9 HB8
    by_cases hlt : k < vm
    · have hlt' : (k : Int) < (vm : Int) := by omega
      obtain ⟨ad, rfl, hlb, hc⟩ := HD.out.lies (by omega)
      have HC : Hid (∀ j u, (Lib.byteCells (nth vds k))[j]? = some u → wr.cell? ((ad.add (k * 32)).add j) = some u) := Hid.mk (nth_cell hc)
      have HL : Hid ((nth vds k).length = 32) := Hid.mk (nth_length HD.out.len hlt)
      clear hc
      go_wp2_with (first | (refine load_agg rfl (.tmp 55) 24 rfl Yba.isAgg24 32 Yba.sizeOf24 (ad.add (k * 32)) rfl (Lib.byteCells (nth vds k)) (by rw [Lib.byteCells_length]; exact HL.out) HC.out ?_) | (refine store_new rfl (.tmp 5) (.tmp 56) 24 rfl _ rfl rfl (Lib.byteCells (nth vds k)).toArray rfl (by rw [info24]; simp [Lib.byteCells_length, HL.out]) (by simp [Lib.byteCells_length, HL.out]) (all_one _) ?_) | (at_builtin; go_must (refine app rfl (.tmp 57) (.tmp 58) rfl (w.heap.size + 1) _ _ _ rfl (HOr.out.alloc _) _ 32 32 (Lib.byteCells (nth vds k)) rfl (by rw [Lib.byteCells_length]; exact HL.out) (by intro h; cases h) (by intro ad had; cases had; exact cells_new _ _ _ _ _ rfl rfl) (byteCells_one _) (by omega) (by simp; omega) ?_); intro ve2 we2 ho3 ha3; have HO3 := Hid.mk ho3; have HA3 := Hid.mk ha3; clear ho3 ha3))
      have HB3 : Below (w.heap.size + 1) (w.alloc (.cells L 27)) we2 := (HBr.out.alloc (by omega) _).trans (HA3.out.below (by simp; omega) (own_ge HOr.out))
      refine ⟨⟨k + 1, by omega, by go_num, ?_, HB3⟩, by simp [intOf]; omega⟩
      have h1 := HO3.out
      rw [← take_nth, byteCells_append]
      rw [show n8 + (k + 1) * 32 = n8 + k * 32 + 32 by omega]
      simpa [List.append_assoc] using h1
    · have hlt' : ¬ (k : Int) < (vm : Int) := by omega
      obtain rfl : vm = k := by omega
      have HOe : Hid (wr.ownsRow (w.heap.size + 1) 5 1 u3 (n8 + vm * 32) (X8 ++ Lib.byteCells vds)) := Hid.mk (by
        have := HOr.out
        rwa [List.take_of_length_le (by rw [HD.out.len]; omega)] at this)
      clear HOr HD
      have q9 := (l0.out _ HBr.out).cl
      go_wp2_with fail
      refine (be19 _ _ cl hcl _ _ wr HOe.out hBr (by omega)).mono ?_
      rintro e w10 ⟨v10, rfl, ho10, ha10⟩
      have HO10 := Hid.mk ho10
      have HB10 := Hid.mk (HBr.out.trans (ha10.below hBr (own_ge HOe.out)))
      have hB10 := (l6.out _ HB10.out).2.2.2.2.1
      have q10 := (l0.out _ HB10.out).hs
      clear ho10 ha10 HOe HBr hBr q9 qv
      go_wp2_with fail
      refine (uv18 _ _ hm hhm v10 _ w10 HO10.out hB10 (by omega)).mono ?_
      rintro e w11 ⟨v11, rfl, ho11, ha11⟩
      have HO11 := Hid.mk ho11
      have HB11 := Hid.mk (HB10.out.trans (ha11.below hB10 (own_ge HO10.out)))
      have k3 := u1.out hm
      have e11 : ∃ n11 X11, n11 ≤ 60000 ∧ w11.ownsRow (w.heap.size + 1) 5 1 v11 n11 X11 ∧ X11 = Lib.byteCells pds ++ (uvl key.size ++ (Lib.byteCells key.data.toList ++ (bel x ++ (bel y ++ (Lib.byteCells tag ++ (Lib.byteCells non ++ (uvl vm ++ (Lib.byteCells vds ++ (bel cl ++ uvl hm))))))))) := ⟨_, _, by omega, HO11.out, by simp [List.append_assoc, HX8.out]⟩
      obtain ⟨n11, X11, hn11, hO11, hX11⟩ := e11
      have HO12 := Hid.mk hO11
      have HX11 := Hid.mk hX11
      clear ho11 ha11 HO10 HB10 hB10 q10 HO11 hO11 hX11 HX8
      go_wp2_with fail
      go_loopw [3, 6] (fun ve vi wr => ∃ k : Nat, k ≤ hm ∧ vi = .int .i64 k ∧ wr.ownsRow (w.heap.size + 1) 5 1 ve (n11 + k * 32) (X11 ++ Lib.byteCells (hds.take (k * 32))) ∧ Below (w.heap.size + 1) (w.alloc (.cells L 27)) wr) (fun _ vi _ => hm - (intOf vi).toNat)
      case atStart => exact ⟨0, by omega, rfl, by simpa [Lib.byteCells] using HO12.out, HB11.out⟩
      case round =>
        obtain ⟨k, hk', rfl, hor, hbr⟩ := hrel
        have HOr := Hid.mk hor
        have HBr := Hid.mk hbr
        have hBr := (l6.out _ hbr).2.2.2.2.1
        have qv := (l0.out _ hbr).hs
        have HD := Hid.mk (l6.out _ hbr).2.2.1
        clear hor hbr HO12 HB11
        by_cases hlt : k < hm
        · have hlt' : (k : Int) < (hm : Int) := by omega
          obtain ⟨ad, rfl, hlb, hc⟩ := HD.out.lies (by omega)
          have HC : Hid (∀ j u, (Lib.byteCells (nth hds k))[j]? = some u → wr.cell? ((ad.add (k * 32)).add j) = some u) := Hid.mk (nth_cell hc)
          have HL : Hid ((nth hds k).length = 32) := Hid.mk (nth_length HD.out.len hlt)
          clear hc
          go_wp2_with (first | (refine load_agg rfl (.tmp 80) 24 rfl Yba.isAgg24 32 Yba.sizeOf24 (ad.add (k * 32)) rfl (Lib.byteCells (nth hds k)) (by rw [Lib.byteCells_length]; exact HL.out) HC.out ?_) | (refine store_new rfl (.tmp 7) (.tmp 81) 24 rfl _ rfl rfl (Lib.byteCells (nth hds k)).toArray rfl (by rw [info24]; simp [Lib.byteCells_length, HL.out]) (by simp [Lib.byteCells_length, HL.out]) (all_one _) ?_) | (at_builtin; go_must (refine app rfl (.tmp 82) (.tmp 83) rfl (w.heap.size + 1) _ _ _ rfl (HOr.out.alloc _) _ 32 32 (Lib.byteCells (nth hds k)) rfl (by rw [Lib.byteCells_length]; exact HL.out) (by intro h; cases h) (by intro ad had; cases had; exact cells_new _ _ _ _ _ rfl rfl) (byteCells_one _) (by omega) (by simp; omega) ?_); intro ve2 we2 ho3 ha3; have HO3 := Hid.mk ho3; have HA3 := Hid.mk ha3; clear ho3 ha3))
          have HB3 : Below (w.heap.size + 1) (w.alloc (.cells L 27)) we2 := (HBr.out.alloc (by omega) _).trans (HA3.out.below (by simp; omega) (own_ge HOr.out))
          refine ⟨⟨k + 1, by omega, by go_num, ?_, HB3⟩, by simp [intOf]; omega⟩
          have h1 := HO3.out
          rw [← take_nth, byteCells_append]
          rw [show n11 + (k + 1) * 32 = n11 + k * 32 + 32 by omega]
          simpa [List.append_assoc] using h1
        · have hlt' : ¬ (k : Int) < (hm : Int) := by omega
          obtain rfl : hm = k := by omega
          have HOe : Hid (wr.ownsRow (w.heap.size + 1) 5 1 u3 (n11 + hm * 32) (X11 ++ Lib.byteCells hds)) := Hid.mk (by
            have := HOr.out
            rwa [List.take_of_length_le (by rw [HD.out.len]; omega)] at this)
          clear HOr HD
          have q13 := (l0.out _ HBr.out).don
          have q13x := (l0.out _ HBr.out).dx
          have q13y := (l0.out _ HBr.out).dy
          have q13t := Hid.mk (l0.out _ HBr.out).dtag
          have h1a : decide (dx = 0) = true := by simpa using H1.out
          have h1b : decide ((dx : Int) = 0) = true := by have := H1.out; simp; omega
          have h2a : decide (dy = 0) = true := by simpa using H2.out
          have h2b : decide ((dy : Int) = 0) = true := by have := H2.out; simp; omega
          have HZT : Hid (∀ W : World, (Op.equalIn 10000 24 (.agg (Lib.byteCells dtag).toArray) (.agg (Lib.byteCells (List.replicate 32 0)).toArray)).run Yba.prog W = .ok true W) := Hid.mk (by intro W; rw [eq24 9998 dtag (List.replicate 32 0) HDT.out (by simp) W]; simp [H3.out])
          go_wp2_with (first | (refine load_agg rfl (.tmp 98) 24 rfl Yba.isAgg24 32 Yba.sizeOf24 ⟨w.heap.size, 74, none⟩ rfl (Lib.byteCells dtag) (by rw [Lib.byteCells_length]; exact HDT.out) q13t.out ?_) | (refine op_eql rfl (.tmp 99) (.tmp 100) 24 rfl (Lib.byteCells dtag).toArray (Lib.byteCells (List.replicate 32 0)).toArray rfl rfl guard24 true (HZT.out _) ?_) | (refine app rfl (.tmp 104) (.tmp 105) rfl (w.heap.size + 1) _ _ _ rfl (HOe.out.alloc _) _ 1 1 [.int .u8 0] rfl rfl (by intro h; cases h) (by intro ad had; cases had; exact cells_new _ _ _ _ _ rfl rfl) (by simp [Value.oneCell']) (by omega) (by simp; omega) ?_; intro v14 w14 ho14 ha14; have HO14 := Hid.mk ho14; have HB14 := Hid.mk (stepB HBr.out hBr (own_ge HOe.out) ha14); have hB14 := (l6.out _ HB14.out).2.2.2.2.1; have q14 := (l0.out _ HB14.out).frag; clear ho14 ha14))
          refine (uv18 _ _ fm hfm v14 _ w14 HO14.out hB14 (by omega)).mono ?_
          rintro e w15 ⟨v15, rfl, ho15, ha15⟩
          have HO15 := Hid.mk ho15
          have HB15 := Hid.mk (HB14.out.trans (ha15.below hB14 (own_ge HO14.out)))
          clear ho15 ha15
          go_wp2_with fail
          go_ret
          have hN : ∃ N, w15.ownsRow (w.heap.size + 1) 5 1 v15 N (Lib.byteCells pds ++ bodyL key x y tag non vm vds cl hm hds O fm) := ⟨_, by
            have h := HO15.out
            rw [HX11.out] at h
            rw [o8.out]
            simpa [bodyL, List.append_assoc] using h⟩
          obtain ⟨N, hN⟩ := hN
          exact ⟨N, v15, rfl, hN, (l6.out _ HB15.out).2.2.2.2.2⟩
end Go.Proofs.Ybulkoxq
