import Derived.Test.YbulkoxqWalks12
set_option linter.unusedVariables false
set_option linter.unusedSimpArgs false
namespace Go.Proofs.Ybulkoxq
open Go.RowKit

theorem yields_build {ops : Array Oper} {S : World → Prop} {o : Oper} {a : Act} (hw : Region.wanted o (yielded ops a.tmps) = true) (t : TypeId) (parts : Array (Nat × Operand)) (ho : o.op = .build t parts) (cells : Array Value)
    (hc : Yba.prog.built t (parts.map fun (i, x) => (i, a.eval x)).toList = some cells) : YieldsIf Yba.prog ops S o (.agg cells) a :=
  Or.inl ⟨hw, fun W _ => by
    unfold execOp
    simp only [ho, Sem.run_bind, run_build W t _ cells hc, Result.andThen_ok, Sem.run_pure]⟩

theorem own_form {w : World} {B n : Nat} {v : Value} {xs : List Value} (h : w.ownsRow B 5 1 v n xs) : ∃ ao c, v = .slice ao n c := by
  obtain ⟨_, ⟨rfl, rfl⟩ | ⟨g, cap, cur, rfl, _⟩⟩ := h
  · exact ⟨none, 0, rfl⟩
  · exact ⟨_, _, rfl⟩

set_option maxRecDepth 100000 in
set_option maxHeartbeats 2000000 in
theorem build_off (po vo ho dob fo : Option Addr) (pn pc vm vc hm hc dm dc fm fc : Nat) (vds hds dds fds : List UInt8) (key : ByteArray) (x y cl dx dy : Nat) (tag non dtag dnon ddig : List UInt8)
    (ht : tag.length = 32) (hn : non.length = 32) (hvm : vm ≤ 1024) (hhm : hm ≤ 1024) (hfm : fm ≤ 1024)
    (hdt : dtag.length = 32) (hdn : dnon.length = 32) (hdg : ddig.length = 32) (hdm : dm ≤ 1024) (hvn : vo = none → vm = 0 ∧ vc = 0) (hhn : ho = none → hm = 0 ∧ hc = 0) (hdon : dob = none → dm = 0 ∧ dc = 0)
    (w : World) (hf : By w w.heap.size fo fm fc fds) (hv : Dg w w.heap.size vo vm vds) (hh : Dg w w.heap.size ho hm hds) (hd : Dg w w.heap.size dob dm dds) :
    Calls Yba.prog 6 #[.agg (argL (.slice po pn pc) key x y tag non (.slice vo vm vc) cl (.slice ho hm hc) false dx dy dtag dnon ddig (.slice dob dm dc) (.slice fo fm fc)).toArray] w fun e w' => ∃ q vo' vc' ho' hc'  fo' fc', e = .returned (.pointer (some ⟨q, 0, none⟩)) ∧ w'.heap[q]? = some (.cells (reqL key x y tag non (.slice vo' vm vc') cl (.slice ho' hm hc') (candL 0 0 z32 z32 z32 (.slice none 0 0)) (.slice fo' fm fc')).toArray 49 (0, 0)) ∧ Dg w' w'.heap.size vo' vm vds ∧ Dg w' w'.heap.size ho' hm hds ∧  Below w.heap.size w w' := by
  have HS : Hid (∀ W : World, W.heap[w.heap.size]? = some (.cells (argL (.slice po pn pc) key x y tag non (.slice vo vm vc) cl (.slice ho hm hc) false dx dy dtag dnon ddig (.slice dob dm dc) (.slice fo fm fc)).toArray 27 (0, 0)) → Arg W w.heap.size (.slice po pn pc) key x y tag non (.slice vo vm vc) cl (.slice ho hm hc) false dx dy dtag dnon ddig (.slice dob dm dc) (.slice fo fm fc)) := Hid.mk (fun W h => Arg.mk' ht hn hdt hdn hdg h)
  generalize hL : (argL (.slice po pn pc) key x y tag non (.slice vo vm vc) cl (.slice ho hm hc) false dx dy dtag dnon ddig (.slice dob dm dc) (.slice fo fm fc)).toArray = L at HS
  have HF := Hid.mk hf
  have HV := Hid.mk hv
  have HH := Hid.mk hh
  have HD := Hid.mk hd
  clear hL hf hv hh hd
  go_enter Yba.func6, Yba.ntmps6
  go_wp2_with fail
  refine wp_region_held_drew (S := fun W => W.heap[w.heap.size]? = some (.cells L 27 (0, 0))) (by kernel_rfl) (heap_alloc_new w _) (fun hHeld => ?_)
  refine wpAnyH_take (i := 0) (oi := ⟨some 4, .fieldAddr 27 (.tmp 1) 1, _, _, _, none⟩) (v := .pointer (some ⟨w.heap.size, 1, none⟩)) rfl (by kernel_rfl) (by kernel_rfl) (by kernel_rfl) (fun _ _ _ h => h) (Or.inl ⟨by rfl, by intro W hW; go_simp⟩) hHeld ?_
  simp only [Act.put, List.setIfInBounds_toArray, List.set_cons_zero, List.set_cons_succ]
  refine wpAnyH_take (i := 1) (oi := ⟨some 5, .load 9 (.tmp 4), _, _, _, none⟩) (v := .string key) rfl (by kernel_rfl) (by kernel_rfl) (by kernel_rfl) (fun _ _ _ h => h) (Or.inl ⟨by rfl, by intro W hW; have q := (HS.out W hW).key; go_simp⟩) hHeld ?_
  simp only [Act.put, List.setIfInBounds_toArray, List.set_cons_zero, List.set_cons_succ]
  refine wpAnyH_take (i := 2) (oi := ⟨some 6, .fieldAddr 27 (.tmp 1) 2, _, _, _, none⟩) (v := .pointer (some ⟨w.heap.size, 2, none⟩)) rfl (by kernel_rfl) (by kernel_rfl) (by kernel_rfl) (fun _ _ _ h => h) (Or.inl ⟨by rfl, by intro W hW; go_simp⟩) hHeld ?_
  simp only [Act.put, List.setIfInBounds_toArray, List.set_cons_zero, List.set_cons_succ]
  refine wpAnyH_take (i := 3) (oi := ⟨some 7, .load 23 (.tmp 6), _, _, _, none⟩) (v := .int .u64 x) rfl (by kernel_rfl) (by kernel_rfl) (by kernel_rfl) (fun _ _ _ h => h) (Or.inl ⟨by rfl, by intro W hW; have q := (HS.out W hW).x; go_simp⟩) hHeld ?_
  simp only [Act.put, List.setIfInBounds_toArray, List.set_cons_zero, List.set_cons_succ]
  refine wpAnyH_take (i := 4) (oi := ⟨some 8, .fieldAddr 27 (.tmp 1) 3, _, _, _, none⟩) (v := .pointer (some ⟨w.heap.size, 3, none⟩)) rfl (by kernel_rfl) (by kernel_rfl) (by kernel_rfl) (fun _ _ _ h => h) (Or.inl ⟨by rfl, by intro W hW; go_simp⟩) hHeld ?_
  simp only [Act.put, List.setIfInBounds_toArray, List.set_cons_zero, List.set_cons_succ]
  refine wpAnyH_take (i := 5) (oi := ⟨some 9, .load 23 (.tmp 8), _, _, _, none⟩) (v := .int .u64 y) rfl (by kernel_rfl) (by kernel_rfl) (by kernel_rfl) (fun _ _ _ h => h) (Or.inl ⟨by rfl, by intro W hW; have q := (HS.out W hW).y; go_simp⟩) hHeld ?_
  simp only [Act.put, List.setIfInBounds_toArray, List.set_cons_zero, List.set_cons_succ]
  refine wpAnyH_take (i := 6) (oi := ⟨some 10, .fieldAddr 27 (.tmp 1) 4, _, _, _, none⟩) (v := .pointer (some ⟨w.heap.size, 4, none⟩)) rfl (by kernel_rfl) (by kernel_rfl) (by kernel_rfl) (fun _ _ _ h => h) (Or.inl ⟨by rfl, by intro W hW; go_simp⟩) hHeld ?_
  simp only [Act.put, List.setIfInBounds_toArray, List.set_cons_zero, List.set_cons_succ]
  refine wpAnyH_take (i := 7) (oi := ⟨some 11, .load 24 (.tmp 10), _, _, _, none⟩) (v := .agg (Lib.byteCells tag).toArray) rfl (by kernel_rfl) (by kernel_rfl) (by kernel_rfl) (fun _ _ _ h => h) (yieldsIf_load_mid (by rfl) 24 (.tmp 10) rfl w.heap.size 4 rfl (Lib.byteCells tag) _ (fun W hW j u hu => by have := (HS.out W hW).tag j u hu; rwa [add_at] at this) Yba.underlying24 rfl (by rw [info24, bc_len tag ht])) hHeld ?_
  simp only [Act.put, List.setIfInBounds_toArray, List.set_cons_zero, List.set_cons_succ]
  refine wpAnyH_take (i := 8) (oi := ⟨some 12, .build 36 #[(0, .tmp 7), (1, .tmp 9), (2, .tmp 11)], _, _, _, none⟩) (v := .agg ((tsL x y tag).toArray)) rfl (by kernel_rfl) (by kernel_rfl) (by kernel_rfl) (fun _ _ _ h => h) (yields_build (by rfl) 36 #[(0, .tmp 7), (1, .tmp 9), (2, .tmp 11)] rfl _ (by simp only [List.map_toArray, List.map_cons, List.map_nil]; exact b36 x y tag ht)) hHeld ?_
  simp only [Act.put, List.setIfInBounds_toArray, List.set_cons_zero, List.set_cons_succ]
  refine wpAnyH_take (i := 9) (oi := ⟨some 13, .fieldAddr 27 (.tmp 1) 5, _, _, _, none⟩) (v := .pointer (some ⟨w.heap.size, 36, none⟩)) rfl (by kernel_rfl) (by kernel_rfl) (by kernel_rfl) (fun _ _ _ h => h) (Or.inl ⟨by rfl, by intro W hW; go_simp⟩) hHeld ?_
  simp only [Act.put, List.setIfInBounds_toArray, List.set_cons_zero, List.set_cons_succ]
  refine wpAnyH_take (i := 10) (oi := ⟨some 14, .load 24 (.tmp 13), _, _, _, none⟩) (v := .agg (Lib.byteCells non).toArray) rfl (by kernel_rfl) (by kernel_rfl) (by kernel_rfl) (fun _ _ _ h => h) (yieldsIf_load_mid (by rfl) 24 (.tmp 13) rfl w.heap.size 36 rfl (Lib.byteCells non) _ (fun W hW j u hu => by have := (HS.out W hW).non j u hu; rwa [add_at] at this) Yba.underlying24 rfl (by rw [info24, bc_len non hn])) hHeld ?_
  simp only [Act.put, List.setIfInBounds_toArray, List.set_cons_zero, List.set_cons_succ]
  refine wpAnyH_take (i := 11) (oi := ⟨some 15, .fieldAddr 27 (.tmp 1) 6, _, _, _, none⟩) (v := .pointer (some ⟨w.heap.size, 68, none⟩)) rfl (by kernel_rfl) (by kernel_rfl) (by kernel_rfl) (fun _ _ _ h => h) (Or.inl ⟨by rfl, by intro W hW; go_simp⟩) hHeld ?_
  simp only [Act.put, List.setIfInBounds_toArray, List.set_cons_zero, List.set_cons_succ]
  refine wpAnyH_take (i := 12) (oi := ⟨some 16, .load 25 (.tmp 15), _, _, _, none⟩) (v := .slice vo vm vc) rfl (by kernel_rfl) (by kernel_rfl) (by kernel_rfl) (fun _ _ _ h => h) (Or.inl ⟨by rfl, by intro W hW; have q := (HS.out W hW).vec; go_simp⟩) hHeld ?_
  simp only [Act.put, List.setIfInBounds_toArray, List.set_cons_zero, List.set_cons_succ]
  refine wpAnyH_take (i := 14) (oi := ⟨some 18, .fieldAddr 27 (.tmp 1) 7, _, _, _, none⟩) (v := .pointer (some ⟨w.heap.size, 69, none⟩)) rfl (by kernel_rfl) (by kernel_rfl) (by kernel_rfl) (fun _ _ _ h => h) (Or.inl ⟨by rfl, by intro W hW; go_simp⟩) hHeld ?_
  simp only [Act.put, List.setIfInBounds_toArray, List.set_cons_zero, List.set_cons_succ]
  refine wpAnyH_take (i := 15) (oi := ⟨some 19, .load 23 (.tmp 18), _, _, _, none⟩) (v := .int .u64 cl) rfl (by kernel_rfl) (by kernel_rfl) (by kernel_rfl) (fun _ _ _ h => h) (Or.inl ⟨by rfl, by intro W hW; have q := (HS.out W hW).cl; go_simp⟩) hHeld ?_
  simp only [Act.put, List.setIfInBounds_toArray, List.set_cons_zero, List.set_cons_succ]
  refine wpAnyH_take (i := 16) (oi := ⟨some 20, .fieldAddr 27 (.tmp 1) 8, _, _, _, none⟩) (v := .pointer (some ⟨w.heap.size, 70, none⟩)) rfl (by kernel_rfl) (by kernel_rfl) (by kernel_rfl) (fun _ _ _ h => h) (Or.inl ⟨by rfl, by intro W hW; go_simp⟩) hHeld ?_
  simp only [Act.put, List.setIfInBounds_toArray, List.set_cons_zero, List.set_cons_succ]
  refine wpAnyH_take (i := 17) (oi := ⟨some 21, .load 25 (.tmp 20), _, _, _, none⟩) (v := .slice ho hm hc) rfl (by kernel_rfl) (by kernel_rfl) (by kernel_rfl) (fun _ _ _ h => h) (Or.inl ⟨by rfl, by intro W hW; have q := (HS.out W hW).hs; go_simp⟩) hHeld ?_
  simp only [Act.put, List.setIfInBounds_toArray, List.set_cons_zero, List.set_cons_succ]
  refine wpAnyH_take (i := 20) (oi := ⟨some 24, .fieldAddr 27 (.tmp 1) 16, _, _, _, none⟩) (v := .pointer (some ⟨w.heap.size, 171, none⟩)) rfl (by kernel_rfl) (by kernel_rfl) (by kernel_rfl) (fun _ _ _ h => h) (Or.inl ⟨by rfl, by intro W hW; go_simp⟩) hHeld ?_
  simp only [Act.put, List.setIfInBounds_toArray, List.set_cons_zero, List.set_cons_succ]
  refine wpAnyH_take (i := 21) (oi := ⟨some 25, .load 22 (.tmp 24), _, _, _, none⟩) (v := .slice fo fm fc) rfl (by kernel_rfl) (by kernel_rfl) (by kernel_rfl) (fun _ _ _ h => h) (Or.inl ⟨by rfl, by intro W hW; have q := (HS.out W hW).frag; go_simp⟩) hHeld ?_
  simp only [Act.put, List.setIfInBounds_toArray, List.set_cons_zero, List.set_cons_succ]
  have B0 : Hid (Below w.heap.size w (w.alloc (.cells L 27)).drew) := Hid.mk (((Below.refl _ w).alloc (Nat.le_refl _) _).drew)
  have DV0 := Hid.mk (HV.out.later B0.out (show w.heap.size ≤ (w.alloc (.cells L 27)).drew.heap.size by simp))
  refine wpAnyH_ready (rs := [13]) (by kernel_rfl) (by simp) (AllReadyH.cons rfl (fun K hK => ?_) AllReadyH.nil)
  go_simp
  refine (macs10 vm vc vo vds hvm hvn _ DV0.out).mono ?_
  rintro e w1 ⟨vo', vc', rfl, d1, hb1⟩
  have D1 := Hid.mk d1
  have hz1 : w.heap.size + 1 ≤ w1.heap.size := by have := hb1.size; simp at this; omega
  have B1 : Hid (Below w.heap.size w w1) := Hid.mk (B0.out.trans (hb1.mono (by simp)))
  have hS1 : w1.heap[w.heap.size]? = some (.cells L 27 (0, 0)) := by rw [hb1.block _ (by simp)]; exact hHeld
  clear d1 hb1 DV0 B0
  try simp only []
  refine hK.out _ _ hS1 (fun hHeld => ?_)
  clear hK K hS1
  try simp only [Act.put, List.setIfInBounds_toArray, List.set_cons_zero, List.set_cons_succ]
  have DH1 := Hid.mk (HH.out.later B1.out (show w.heap.size ≤ w1.heap.size by omega))
  refine wpAnyH_ready (rs := [18]) (by kernel_rfl) (by simp) (AllReadyH.cons rfl (fun K hK => ?_) AllReadyH.nil)
  go_simp
  refine (hashes11 hm hc ho hds hhm hhn _ DH1.out).mono ?_
  rintro e w2 ⟨ho', hc', rfl, d2, hb2⟩
  have D2 := Hid.mk d2
  have hz2 : w1.heap.size ≤ w2.heap.size := hb2.size
  have D1' := Hid.mk (D1.out.later hb2 hz2)
  have B2 : Hid (Below w.heap.size w w2) := Hid.mk (B1.out.trans (hb2.mono (by omega)))
  have hS2 : w2.heap[w.heap.size]? = some (.cells L 27 (0, 0)) := by rw [hb2.block _ (by omega)]; exact hHeld
  clear d2 hb2 DH1 B1 D1
  try simp only []
  refine hK.out _ _ hS2 (fun hHeld => ?_)
  clear hK K hS2
  try simp only [Act.put, List.setIfInBounds_toArray, List.set_cons_zero, List.set_cons_succ]
  have HF2 := Hid.mk (HF.out.later B2.out (show w.heap.size ≤ w2.heap.size by omega))
  refine wpAnyH_take (i := 19) (oi := ⟨some 23, .build 44 #[(0, .tmp 19), (1, .tmp 22)], _, _, _, none⟩) (v := .agg (#[.int .u64 cl, .slice ho' hm hc'])) rfl (by kernel_rfl) (by kernel_rfl) (by kernel_rfl) (fun _ _ _ h => h) (yields_build (by rfl) 44 #[(0, .tmp 19), (1, .tmp 22)] rfl _ (by simp only [List.map_toArray, List.map_cons, List.map_nil]; exact b44 cl ho' hm hc')) hHeld ?_
  simp only [Act.put, List.setIfInBounds_toArray, List.set_cons_zero, List.set_cons_succ]
  refine wpAnyH_ready (rs := [22]) (by kernel_rfl) (by simp) (AllReadyH.cons rfl (fun K hK => ?_) AllReadyH.nil)
  rw [if_pos (by rfl)]
  refine wp_app (.const (.slice none 0 0)) (.tmp 25) rfl w2.heap.size (.slice none 0 0) 0 [] rfl (World.ownsRow_nil _ _ _ _) fo fm fc (Lib.byteCells fds) rfl (by rw [Lib.byteCells_length]; exact HF2.out.len) HF2.out.none (by intro ad had j u hu; exact (HF2.out.lies ad had j u hu).2) (byteCells_one _) (by omega) (Nat.le_refl _) ?_
  intro v3 w3 ho3 ha3
  have hb3 : Below w2.heap.size w2 w3 := ha3.below (Nat.le_refl _) (fun k hk => by cases hk)
  obtain ⟨fo', fc', hv3⟩ := own_form ho3
  rw [Nat.zero_add] at hv3
  subst hv3
  have hz3 : w2.heap.size ≤ w3.heap.size := hb3.size
  have D1'' := Hid.mk (D1'.out.later hb3 hz3)
  have D2' := Hid.mk (D2.out.later hb3 hz3)
  have B3 : Hid (Below w.heap.size w w3) := Hid.mk (B2.out.trans (hb3.mono (by omega)))
  have hS3 : w3.heap[w.heap.size]? = some (.cells L 27 (0, 0)) := by rw [hb3.block _ (by omega)]; exact hHeld
  clear ho3 ha3 hb3 HF2 B2 D1' D2
  refine hK.out _ _ hS3 (fun hHeld => ?_)
  clear hK K hS3
  try simp only [Act.put, List.setIfInBounds_toArray, List.set_cons_zero, List.set_cons_succ]
  refine wpAnyH_take (i := 23) (oi := ⟨some 27, .build 49 #[(0, .tmp 5), (1, .tmp 12), (2, .tmp 14), (3, .tmp 17), (4, .tmp 23), (6, .tmp 26)], _, _, _, none⟩) (v := .agg ((reqL key x y tag non (.slice vo' vm vc') cl (.slice ho' hm hc') (candL 0 0 z32 z32 z32 (.slice none 0 0)) (.slice fo' fm fc')).toArray)) rfl (by kernel_rfl) (by kernel_rfl) (by kernel_rfl) (fun _ _ _ h => h) (yields_build (by rfl) 49 #[(0, .tmp 5), (1, .tmp 12), (2, .tmp 14), (3, .tmp 17), (4, .tmp 23), (6, .tmp 26)] rfl _ (by simp only [List.map_toArray, List.map_cons, List.map_nil]; exact b49 key x y tag non vo' vm vc' cl ho' hm hc' fo' fm fc' ht hn)) hHeld ?_
  simp only [Act.put, List.setIfInBounds_toArray, List.set_cons_zero, List.set_cons_succ]
  generalize hR : (reqL key x y tag non (.slice vo' vm vc') cl (.slice ho' hm hc') (candL 0 0 z32 z32 z32 (.slice none 0 0)) (.slice fo' fm fc')).toArray = R
  refine wpAnyH_ready (rs := [24]) (by kernel_rfl) (by simp) (AllReadyH.cons rfl (fun K hK => ?_) AllReadyH.nil)
  go_simp
  refine hK.out _ _ ((heap_alloc_old w3 _ (by omega)).trans hHeld) (fun hHeld => ?_)
  clear hK K
  refine wpAnyH_ready (rs := [25]) (by kernel_rfl) (by simp) (AllReadyH.cons rfl (fun K hK => ?_) AllReadyH.nil)
  go_simp
  refine hK.out _ _ hHeld (fun hHeld => ?_)
  clear hK K
  refine wpAnyH_done (by kernel_rfl) ?_ _
  have q := (HS.out _ hHeld).don
  go_wp2_with fail
  go_ret
  refine ⟨w3.heap.size, vo', vc', ho', hc', fo', fc', rfl, ?_, D1''.out.later ((Below.refl _ w3).alloc (Nat.le_refl _) _) (by simp), D2'.out.later ((Below.refl _ w3).alloc (Nat.le_refl _) _) (by simp), B3.out.alloc (by omega) _⟩
  rw [hR]
  exact heap_alloc_new w3 _
end Go.Proofs.Ybulkoxq
