import Derived.Test.YbulkoxqWalks20
set_option linter.unusedVariables false
set_option linter.unusedSimpArgs false
namespace Go.Proofs.Ybulkoxq
open Go.RowKit

set_option maxRecDepth 100000 in
set_option maxHeartbeats 2000000 in
/-- The law where nothing is too long. -/
theorem law_small (po vo ho dob fo : Option Addr) (pn pc vm vc hm hc dm dc fm fc : Nat) (pds vds hds dds fds : List UInt8) (key : ByteArray) (x y cl dx dy : Nat) (tag non dtag dnon ddig : List UInt8) (don : Bool)
    (hpn : pn ≤ 1024) (hk : key.size ≤ 1024) (hx : x < 18446744073709551616) (hy : y < 18446744073709551616) (ht : tag.length = 32) (hn : non.length = 32) (hvm : vm ≤ 1024) (hhm : hm ≤ 1024) (hfm : fm ≤ 1024) (hcl : cl < 18446744073709551616)
    (hdx : dx < 18446744073709551616) (hdy : dy < 18446744073709551616) (hdt : dtag.length = 32) (hdn : dnon.length = 32) (hdg : ddig.length = 32) (hdm : dm ≤ 1024) (hvn : vo = none → vm = 0 ∧ vc = 0) (hhn : ho = none → hm = 0 ∧ hc = 0) (hdon : dob = none → dm = 0 ∧ dc = 0)
    (w : World) (hp : By w w.heap.size po pn pc pds) (hf : By w w.heap.size fo fm fc fds) (hv : Dg w w.heap.size vo vm vds) (hh : Dg w w.heap.size ho hm hds) (hd : Dg w w.heap.size dob dm dds) :
    Calls Yba.prog 3 #[.agg (argL (.slice po pn pc) key x y tag non (.slice vo vm vc) cl (.slice ho hm hc) don dx dy dtag dnon ddig (.slice dob dm dc) (.slice fo fm fc)).toArray] w fun e w' => e = .returned (.bool true) ∧ Below w.heap.size w w' := by
  have HL : Hid ((argL (.slice po pn pc) key x y tag non (.slice vo vm vc) cl (.slice ho hm hc) don dx dy dtag dnon ddig (.slice dob dm dc) (.slice fo fm fc)).length = 172) := Hid.mk (argL_length _ _ _ _ _ _ _ _ _ _ _ _ _ _ _ _ _ ht hn hdt hdn hdg)
  have HBIG := Hid.mk (big_no po vo ho dob fo pn pc vm vc hm hc dm dc fm fc key x y cl dx dy tag non dtag dnon ddig don hpn hk ht hn hvm hhm hfm hdt hdn hdg hdm)
  have HBLD := Hid.mk (fun W h1 h2 h3 h4 => build6 po vo ho dob fo pn pc vm vc hm hc dm dc fm fc vds hds dds fds key x y cl dx dy tag non dtag dnon ddig don ht hn hvm hhm hfm hdx hdy hdt hdn hdg hdm hvn hhn hdon W h1 h2 h3 h4)
  have HMOD := Hid.mk (fun W h1 h2 h3 h4 => model9 po vo ho dob fo pn pc vm vc hm hc dm dc fm fc pds vds hds dds key x y cl dx dy tag non dtag dnon ddig don hpn hk hx hy ht hn hvm hhm hfm hcl hdx hdy hdt hdn hdg hdm W h1 h2 h3 h4)
  have HPRE : Hid (∀ W : World, W.heap[w.heap.size]? = some (.cells (argL (.slice po pn pc) key x y tag non (.slice vo vm vc) cl (.slice ho hm hc) don dx dy dtag dnon ddig (.slice dob dm dc) (.slice fo fm fc)).toArray 27 (0, 0)) → W.cell? ⟨w.heap.size, 0, none⟩ = some (.slice po pn pc)) := Hid.mk (fun W h => (Arg.mk' ht hn hdt hdn hdg h).pre)
  have HOPT : Hid (∀ u ∈ optD don dx dy dtag dnon ddig dm dds, IsByte u) := Hid.mk (by
    intro u hu
    unfold optD at hu
    split at hu
    · exact isByte_opt dx dy dm dtag dnon ddig dds hdx hdy hdm u hu
    · simp at hu
      exact ⟨_, hu, by omega, by omega⟩)
  have HT := Hid.mk ht
  have HN := Hid.mk hn
  have HP := Hid.mk hp
  have HF := Hid.mk hf
  have HV := Hid.mk hv
  have HH := Hid.mk hh
  have HD := Hid.mk hd
  generalize argL (.slice po pn pc) key x y tag non (.slice vo vm vc) cl (.slice ho hm hc) don dx dy dtag dnon ddig (.slice dob dm dc) (.slice fo fm fc) = L at *
  have HC : Hid (∀ W : World, Below (w.heap.size + 1) (w.alloc (.cells L.toArray 27)) W → W.heap[w.heap.size]? = some (.cells L.toArray 27 (0, 0)) ∧ (∀ j u, L[j]? = some u → W.cell? ((⟨w.heap.size, 0, none⟩ : Addr).add j) = some u) ∧ Below w.heap.size w W ∧ w.heap.size + 1 ≤ W.heap.size) := Hid.mk (by
    intro W h
    have h1 : W.heap[w.heap.size]? = some (.cells L.toArray 27 (0, 0)) := by rw [h.block _ (by omega)]; exact heap_alloc_new w _
    refine ⟨h1, cells_of h1 (by intro j u hu; simpa using hu), ((Below.refl _ w).alloc (Nat.le_refl _) _).trans (h.mono (by omega)), ?_⟩
    have := h.size
    simp at this
    omega)
  clear ht hn hdt hdn hdg hp hf hv hh hd hvn hhn hdon
  have b0 := Hid.mk (Below.refl (w.heap.size + 1) (w.alloc (.cells L.toArray 27)))
  have c0 := Hid.mk (HC.out _ b0.out).2.1
  go_enter Yba.func3, Yba.ntmps3
  go_wp2_with (refine load_agg rfl (.tmp 1) 27 rfl Yba.isAgg27 172 Yba.sizeOf27 ⟨w.heap.size, 0, none⟩ rfl L HL.out c0.out ?_)
  refine (HBIG.out _).mono ?_
  rintro e w1 ⟨rfl, hb1⟩
  have b1 := Hid.mk (b0.out.trans (hb1.mono (by simp)))
  have c1 := Hid.mk (HC.out _ b1.out).2.1
  clear hb1 b0 c0
  go_wp2_with (refine load_agg rfl (.tmp 1) 27 rfl Yba.isAgg27 172 Yba.sizeOf27 ⟨w.heap.size, 0, none⟩ rfl L HL.out c1.out ?_)
  have z1 := (HC.out _ b1.out).2.2.2
  have y1 := Hid.mk (HC.out _ b1.out).2.2.1
  refine (HBLD.out w1 (HF.out.later y1.out (by omega)) (HV.out.later y1.out (by omega)) (HH.out.later y1.out (by omega)) (HD.out.later y1.out (by omega))).mono ?_
  rintro e w2 ⟨q, vo', vc', ho', hc', cx, cy, ct, cn, cg, co, cm, cc, cds, fo', fc', rfl, hq, d1, d2, d3, hopt, hb2⟩
  have b2 := Hid.mk (b1.out.trans (hb2.mono z1))
  have HQ := Hid.mk hq
  have D1 := Hid.mk d1
  have D2 := Hid.mk d2
  have D3 := Hid.mk d3
  have HO := Hid.mk hopt
  have z2 := (HC.out _ b2.out).2.2.2
  have p2 := HPRE.out _ (HC.out _ b2.out).1
  have y2 := Hid.mk (HP.out.later (HC.out _ b2.out).2.2.1 (show w.heap.size ≤ w2.heap.size by omega))
  clear hq d1 d2 d3 hopt hb2 b1 c1 y1
  go_wp2_with (refine app rfl (.const (.slice none 0 0)) (.tmp 11) rfl w2.heap.size _ 0 [] rfl (World.ownsRow_nil _ _ _ _) po pn pc (Lib.byteCells pds) rfl (by rw [Lib.byteCells_length]; exact y2.out.len) y2.out.none (by intro ad had j u hu; exact (y2.out.lies ad had j u hu).2) (byteCells_one _) (by omega) (Nat.le_refl _) ?_; intro v3 w3 ho3 ha3; have O3 := Hid.mk ho3; have A3 := Hid.mk ha3; clear ho3 ha3)
  have hb3 : Below w2.heap.size w2 w3 := A3.out.below (Nat.le_refl _) (fun k hk => by cases hk)
  have z3 : w2.heap.size ≤ w3.heap.size := hb3.size
  have hq2 : q < w2.heap.size := (Array.getElem?_eq_some_iff.1 HQ.out).1
  refine (body7 w2.heap.size _ q key x y tag non vo' ho' fo' vm vc' hm hc' fm fc' cl vds hds cx cy cm cc ct cn cg cds co hk hx hy HT.out HN.out hvm hhm hfm hcl D3.out.hx D3.out.hy D3.out.ht D3.out.hn D3.out.hg D3.out.hm v3 _ w3 O3.out z3 (by omega) hq2 (by rw [hb3.block _ hq2]; exact HQ.out) (D1.out.later hb3 (Nat.le_refl _)) (D2.out.later hb3 (Nat.le_refl _)) (D3.out.dg.later hb3 (Nat.le_refl _))).mono ?_
  rintro e w4 ⟨N4, v4, rfl, ho4, ha4⟩
  have hb4 : Below w2.heap.size w3 w4 := ha4.below z3 (own_ge O3.out)
  have b4 := Hid.mk (b2.out.trans ((hb3.trans hb4).mono z2))
  have O4 : Hid (w4.ownsRow w2.heap.size 5 1 v4 N4 (Lib.byteCells pds ++ bodyL key x y tag non vm vds cl hm hds (optD don dx dy dtag dnon ddig dm dds) fm)) := Hid.mk (by rw [HO.out] at ho4; simpa using ho4)
  have c4 := Hid.mk (HC.out _ b4.out).2.1
  have y4 := Hid.mk (HC.out _ b4.out).2.2.1
  have z4 := (HC.out _ b4.out).2.2.2
  clear ho4 ha4 hb3 hb4 O3 A3 D1 D2 D3 HQ HO p2 y2 b2
  go_wp2_with (refine load_agg rfl (.tmp 1) 27 rfl Yba.isAgg27 172 Yba.sizeOf27 ⟨w.heap.size, 0, none⟩ rfl L HL.out c4.out ?_)
  refine (HMOD.out w4 (HP.out.later y4.out (by omega)) (HV.out.later y4.out (by omega)) (HH.out.later y4.out (by omega)) (HD.out.later y4.out (by omega))).mono ?_
  rintro e w5 ⟨N5, v5, rfl, ho5, hb5⟩
  obtain ⟨bs, hbs⟩ := cells_bytes (Lib.byteCells pds ++ bodyL key x y tag non vm vds cl hm hds (optD don dx dy dtag dnon ddig dm dds) fm) (by
    intro u hu
    rcases List.mem_append.1 hu with h | h
    · exact isByte_cells _ u h
    · exact isByte_body _ _ _ _ _ _ _ _ _ _ _ _ hk hx hy hvm hcl hhm hfm HOPT.out u h)
  have o4 := O4.out
  rw [hbs] at o4 ho5
  have hpos : 0 < bs.length := by
    have h1 : (Lib.byteCells bs).length = bs.length := Lib.byteCells_length bs
    have h2 : 0 < (uvl key.size).length := by unfold uvl; split <;> simp
    rw [← h1, ← hbs]
    simp [bodyL]
    omega
  have hN4 : N4 = bs.length := by have := o4.1; rw [Lib.byteCells_length] at this; omega
  have hN5 : N5 = bs.length := by have := ho5.1; rw [Lib.byteCells_length] at this; omega
  subst hN4
  subst hN5
  have k4 : ∃ g c, v4 = .slice (some ⟨g, 0, none⟩) bs.length c ∧ ∀ j u, (Lib.byteCells bs)[j]? = some u → w5.cell? ((⟨g, 0, none⟩ : Addr).add j) = some u := by
    have hlt := o4.lt
    have hcl4 := fun g hg => o4.cells (g := g) hg
    obtain ⟨_, ⟨_, h0⟩ | ⟨g, cap, cur, rfl, _⟩⟩ := o4
    · omega
    · refine ⟨g, cap, rfl, fun j u hu => ?_⟩
      have h3 := hcl4 g rfl j u hu
      rw [hb5.cell (by rw [add_block]; exact (hlt g rfl).2)]
      exact h3
  have k5 : ∃ g c, v5 = .slice (some ⟨g, 0, none⟩) bs.length c ∧ ∀ j u, (Lib.byteCells bs)[j]? = some u → w5.cell? ((⟨g, 0, none⟩ : Addr).add j) = some u := by
    have hcl5 := fun g hg => ho5.cells (g := g) hg
    obtain ⟨_, ⟨_, h0⟩ | ⟨g, cap, cur, rfl, _⟩⟩ := ho5
    · omega
    · exact ⟨g, cap, rfl, fun j u hu => hcl5 g rfl j u hu⟩
  obtain ⟨g4, c4', rfl, K4⟩ := k4
  obtain ⟨g5, c5', rfl, K5⟩ := k5
  have HE := Hid.mk (eq8 ⟨g4, 0, none⟩ ⟨g5, 0, none⟩ bs.length c4' c5' bs rfl w5 K4 K5)
  have b5 := Hid.mk (y4.out.trans (hb5.mono (by omega)))
  clear K4 K5 ho5 o4 hb5 hbs
  go_wp2_with fail
  refine HE.out.mono ?_
  rintro e w6 ⟨rfl, rfl⟩
  go_wp2_with fail
  go_ret
  exact ⟨rfl, b5.out⟩
end Go.Proofs.Ybulkoxq
