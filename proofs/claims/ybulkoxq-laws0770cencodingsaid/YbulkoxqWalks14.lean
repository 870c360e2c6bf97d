import Derived.Test.YbulkoxqWalks13
set_option linter.unusedVariables false
set_option linter.unusedSimpArgs false
namespace Go.Proofs.Ybulkoxq
open Go.RowKit

/-- A whole aggregate into the middle of a block: one step of a region that draws. -/
theorem wp_store_row {w : World} {o : Oper} {a : Act} {K : Act → World → Prop} {Q : Exit → Act → World → Prop} (x y : Operand) (t : TypeId) (ho : o.op = .store t x y)
    (g off : Nat) (hx : a.eval x = .pointer (some ⟨g, off, none⟩)) (l : List Value) (hy : a.eval y = .agg l.toArray) (cur : Array Value) (te : TypeId) (hg : w.heap[g]? = some (.cells cur te (0, 0)))
    (hsz : ∀ w, (sizeOf t).run Yba.prog w = .ok l.length w) (hs : off + l.length ≤ cur.size) (h1 : ∀ u ∈ l, u.oneCell' = true)
    (h : K (a.put o.dst undef) (w.setRow g (cur.toList.take off ++ (l ++ cur.toList.drop (off + l.length))).toArray)) : o.wp Yba.prog a w K Q := by
  have hr := run_storeCells_at Yba.prog g off te l 0 cur w hg (by simpa using hs) h1
  simp only [Nat.add_zero] at hr
  unfold Oper.wp execOp
  simp [ho, hx, hy, Instr.storeAt, Instr.sureAddr, storeVar, hsz, Value.cells, hr, Result.andThen]
  exact h

theorem macs10b (m c : Nat) (ao : Option Addr) (ds : List UInt8) (hm : m ≤ 1024) (hn : ao = none → m = 0 ∧ c = 0) (w : World) (hd : Dg w w.heap.size ao m ds) :
    Calls Yba.prog 10 #[.slice ao m c] w fun e w' => ∃ bo c', e = .returned (.slice bo m c') ∧ (bo = none ∨ bo = some ⟨w.heap.size, 0, none⟩) ∧ Dg w' w'.heap.size bo m ds ∧ Below w.heap.size w w' := by
  cases ao with
  | none =>
    obtain ⟨rfl, rfl⟩ := hn rfl
    exact (macs_nil w).mono fun e w' ⟨h1, h2⟩ => ⟨none, 0, h1, .inl rfl, h2 ▸ hd, h2 ▸ Below.refl _ _⟩
  | some ad => exact (macs_some m c ad ds hm w hd).mono fun e w' ⟨h1, h2, h3⟩ => ⟨_, _, h1, .inr rfl, h2, h3⟩

theorem cand_one (x y : Nat) (tag non dig : List UInt8) (v : Option Addr) (n c : Nat) : ∀ u ∈ candL x y tag non dig (.slice v n c), u.oneCell' = true := by
  intro u hu
  simp only [candL, tsL, List.mem_append, List.mem_cons, List.not_mem_nil, or_false] at hu
  rcases hu with (rfl | rfl | h) | h | h | rfl
  · rfl
  · rfl
  · exact byteCells_one _ u h
  · exact byteCells_one _ u h
  · exact byteCells_one _ u h
  · rfl

theorem req_put (key : ByteArray) (x y : Nat) (tag non : List UInt8) (vec : Value) (cl : Nat) (hs frag : Value) (D D' : List Value) (ht : tag.length = 32) (hn : non.length = 32) (hD : D.length = 99) (hD' : D'.length = 99) :
    (reqL key x y tag non vec cl hs D frag).take 70 ++ (D' ++ (reqL key x y tag non vec cl hs D frag).drop (70 + D'.length)) = reqL key x y tag non vec cl hs D' frag := by
  have h1 := bc_len non hn
  have h3 := tsL_length (x := x) (y := y) ht
  have e : reqL key x y tag non vec cl hs D frag = (.string key :: (tsL x y tag ++ (Lib.byteCells non ++ [vec, .int .u64 cl, hs]))) ++ (D ++ [frag]) := by simp [reqL]
  have hl : (Value.string key :: (tsL x y tag ++ (Lib.byteCells non ++ [vec, .int .u64 cl, hs]))).length = 70 := by simp [h3, h1]
  rw [hD', e, List.take_left' hl, ← List.drop_drop, List.drop_left' hl, List.drop_left' hD]
  simp [reqL]

theorem req_size (key : ByteArray) (x y : Nat) (tag non : List UInt8) (vec : Value) (cl : Nat) (hs frag : Value) (D : List Value) (ht : tag.length = 32) (hn : non.length = 32) (hD : D.length = 99) : (reqL key x y tag non vec cl hs D frag).length = 170 := by
  simp [reqL, bc_len non hn, tsL_length (x := x) (y := y) ht, hD]

set_option maxRecDepth 100000 in
set_option maxHeartbeats 2000000 in
theorem build_on (po vo ho dob fo : Option Addr) (pn pc vm vc hm hc dm dc fm fc : Nat) (vds hds dds fds : List UInt8) (key : ByteArray) (x y cl dx dy : Nat) (tag non dtag dnon ddig : List UInt8)
    (ht : tag.length = 32) (hn : non.length = 32) (hvm : vm ≤ 1024) (hhm : hm ≤ 1024) (hfm : fm ≤ 1024)
    (hdt : dtag.length = 32) (hdn : dnon.length = 32) (hdg : ddig.length = 32) (hdm : dm ≤ 1024) (hvn : vo = none → vm = 0 ∧ vc = 0) (hhn : ho = none → hm = 0 ∧ hc = 0) (hdon : dob = none → dm = 0 ∧ dc = 0)
    (w : World) (hf : By w w.heap.size fo fm fc fds) (hv : Dg w w.heap.size vo vm vds) (hh : Dg w w.heap.size ho hm hds) (hd : Dg w w.heap.size dob dm dds) :
    Calls Yba.prog 6 #[.agg (argL (.slice po pn pc) key x y tag non (.slice vo vm vc) cl (.slice ho hm hc) true dx dy dtag dnon ddig (.slice dob dm dc) (.slice fo fm fc)).toArray] w fun e w' => ∃ q vo' vc' ho' hc' do' dc' fo' fc', e = .returned (.pointer (some ⟨q, 0, none⟩)) ∧ w'.heap[q]? = some (.cells (reqL key x y tag non (.slice vo' vm vc') cl (.slice ho' hm hc') (candL dx dy dtag dnon ddig (.slice do' dm dc')) (.slice fo' fm fc')).toArray 49 (0, 0)) ∧ Dg w' w'.heap.size vo' vm vds ∧ Dg w' w'.heap.size ho' hm hds ∧ Dg w' w'.heap.size do' dm dds ∧ Below w.heap.size w w' := by
  have HS : Hid (∀ W : World, W.heap[w.heap.size]? = some (.cells (argL (.slice po pn pc) key x y tag non (.slice vo vm vc) cl (.slice ho hm hc) true dx dy dtag dnon ddig (.slice dob dm dc) (.slice fo fm fc)).toArray 27 (0, 0)) → Arg W w.heap.size (.slice po pn pc) key x y tag non (.slice vo vm vc) cl (.slice ho hm hc) true dx dy dtag dnon ddig (.slice dob dm dc) (.slice fo fm fc)) := Hid.mk (fun W h => Arg.mk' ht hn hdt hdn hdg h)
  generalize hL : (argL (.slice po pn pc) key x y tag non (.slice vo vm vc) cl (.slice ho hm hc) true dx dy dtag dnon ddig (.slice dob dm dc) (.slice fo fm fc)).toArray = L at HS
  have HF := Hid.mk hf
  have HV := Hid.mk hv
  have HH := Hid.mk hh
  have HD := Hid.mk hd
  clear hL hf hv hh hd
  go_enter Yba.func6, Yba.ntmps6
  go_wp2_with fail
  refine wp_region_held_drew (S := fun W => W.heap[w.heap.size]? = some (.cells L 27 (0, 0))) (by kernel_rfl) (heap_alloc_new w _) (fun hHeld => ?_)
  refine wpAnyH_take (i := 0) (oi := ⟨some 4, .fieldAddr 27 (.tmp 1) 1, _, _, _, none⟩) (v := .pointer (some ⟨w.heap.size, 1, none⟩)) rfl (by kernel_rfl) (by kernel_rfl) (by kernel_rfl) (fun _ _ _ h => h) (Or.inl ⟨by rfl, by intro W hW; go_simp⟩) hHeld ?_
  simp only [Act.put, List.setIfInBounds_toArray, List.set_cons_zero, List.set_cons_succ]
  refine wpAnyH_take (i := 1) (oi := ⟨some 5, .load 9 (.tmp 4), _, _, _, none⟩) (v := .string key) rfl (by kernel_rfl) (by kernel_rfl) (by kernel_rfl) (fun _ _ _ h => h) (Or.inl ⟨by rfl, by intro W hW; have q := (HS.out W hW).key; go_simp⟩) hHeld ?_
  simp only [Act.put, List.setIfInBounds_toArray, List.set_cons_zero, List.set_cons_succ]
  refine wpAnyH_take (i := 2) (oi := ⟨some 6, .fieldAddr 27 (.tmp 1) 2, _, _, _, none⟩) (v := .pointer (some ⟨w.heap.size, 2, none⟩)) rfl (by kernel_rfl) (by kernel_rfl) (by kernel_rfl) (fun _ _ _ h => h) (Or.inl ⟨by rfl, by intro W hW; go_simp⟩) hHeld ?_
  simp only [Act.put, List.setIfInBounds_toArray, List.set_cons_zero, List.set_cons_succ]
  refine wpAnyH_take (i := 3) (oi := ⟨some 7, .load 23 (.tmp 6), _, _, _, none⟩) (v := .int .u64 x) rfl (by kernel_rfl) (by kernel_rfl) (by kernel_rfl) (fun _ _ _ h => h) (Or.inl ⟨by rfl, by intro W hW; have q := (HS.out W hW).x; go_simp⟩) hHeld ?_
  simp only [Act.put, List.setIfInBounds_toArray, List.set_cons_zero, List.set_cons_succ]
  refine wpAnyH_take (i := 4) (oi := ⟨some 8, .fieldAddr 27 (.tmp 1) 3, _, _, _, none⟩) (v := .pointer (some ⟨w.heap.size, 3, none⟩)) rfl (by kernel_rfl) (by kernel_rfl) (by kernel_rfl) (fun _ _ _ h => h) (Or.inl ⟨by rfl, by intro W hW; go_simp⟩) hHeld ?_
  simp only [Act.put, List.setIfInBounds_toArray, List.set_cons_zero, List.set_cons_succ]
  refine wpAnyH_take (i := 5) (oi := ⟨some 9, .load 23 (.tmp 8), _, _, _, none⟩) (v := .int .u64 y) rfl (by kernel_rfl) (by kernel_rfl) (by kernel_rfl) (fun _ _ _ h => h) (Or.inl ⟨by rfl, by intro W hW; have q := (HS.out W hW).y; go_simp⟩) hHeld ?_
  simp only [Act.put, List.setIfInBounds_toArray, List.set_cons_zero, List.set_cons_succ]
  refine wpAnyH_take (i := 6) (oi := ⟨some 10, .fieldAddr 27 (.tmp 1) 4, _, _, _, none⟩) (v := .pointer (some ⟨w.heap.size, 4, none⟩)) rfl (by kernel_rfl) (by kernel_rfl) (by kernel_rfl) (fun _ _ _ h => h) (Or.inl ⟨by rfl, by intro W hW; go_simp⟩) hHeld ?_
  simp only [Act.put, List.setIfInBounds_toArray, List.set_cons_zero, List.set_cons_succ]
  refine wpAnyH_take (i := 7) (oi := ⟨some 11, .load 24 (.tmp 10), _, _, _, none⟩) (v := .agg (Lib.byteCells tag).toArray) rfl (by kernel_rfl) (by kernel_rfl) (by kernel_rfl) (fun _ _ _ h => h) (yieldsIf_load_mid (by rfl) 24 (.tmp 10) rfl w.heap.size 4 rfl (Lib.byteCells tag) _ (fun W hW j u hu => by have := (HS.out W hW).tag j u hu; rwa [add_at] at this) Yba.underlying24 rfl (by rw [info24, bc_len tag ht])) hHeld ?_
  simp only [Act.put, List.setIfInBounds_toArray, List.set_cons_zero, List.set_cons_succ]
  refine wpAnyH_take (i := 8) (oi := ⟨some 12, .build 36 #[(0, .tmp 7), (1, .tmp 9), (2, .tmp 11)], _, _, _, none⟩) (v := .agg ((tsL x y tag).toArray)) rfl (by kernel_rfl) (by kernel_rfl) (by kernel_rfl) (fun _ _ _ h => h) (yields_build (by rfl) 36 #[(0, .tmp 7), (1, .tmp 9), (2, .tmp 11)] rfl _ (by simp only [List.map_toArray, List.map_cons, List.map_nil]; exact b36 x y tag ht)) hHeld ?_
  simp only [Act.put, List.setIfInBounds_toArray, List.set_cons_zero, List.set_cons_succ]
  refine wpAnyH_take (i := 9) (oi := ⟨some 13, .fieldAddr 27 (.tmp 1) 5, _, _, _, none⟩) (v := .pointer (some ⟨w.heap.size, 36, none⟩)) rfl (by kernel_rfl) (by kernel_rfl) (by kernel_rfl) (fun _ _ _ h => h) (Or.inl ⟨by rfl, by intro W hW; go_simp⟩) hHeld ?_
  simp only [Act.put, List.setIfInBounds_toArray, List.set_cons_zero, List.set_cons_succ]
  refine wpAnyH_take (i := 10) (oi := ⟨some 14, .load 24 (.tmp 13), _, _, _, none⟩) (v := .agg (Lib.byteCells non).toArray) rfl (by kernel_rfl) (by kernel_rfl) (by kernel_rfl) (fun _ _ _ h => h) (yieldsIf_load_mid (by rfl) 24 (.tmp 13) rfl w.heap.size 36 rfl (Lib.byteCells non) _ (fun W hW j u hu => by have := (HS.out W hW).non j u hu; rwa [add_at] at this) Yba.underlying24 rfl (by rw [info24, bc_len non hn])) hHeld ?_
  simp only [Act.put, List.setIfInBounds_toArray, List.set_cons_zero, List.set_cons_succ]
  refine wpAnyH_take (i := 11) (oi := ⟨some 15, .fieldAddr 27 (.tmp 1) 6, _, _, _, none⟩) (v := .pointer (some ⟨w.heap.size, 68, none⟩)) rfl (by kernel_rfl) (by kernel_rfl) (by kernel_rfl) (fun _ _ _ h => h) (Or.inl ⟨by rfl, by intro W hW; go_simp⟩) hHeld ?_
  simp only [Act.put, List.setIfInBounds_toArray, List.set_cons_zero, List.set_cons_succ]
  refine wpAnyH_take (i := 12) (oi := ⟨some 16, .load 25 (.tmp 15), _, _, _, none⟩) (v := .slice vo vm vc) rfl (by kernel_rfl) (by kernel_rfl) (by kernel_rfl) (fun _ _ _ h => h) (Or.inl ⟨by rfl, by intro W hW; have q := (HS.out W hW).vec; go_simp⟩) hHeld ?_
  simp only [Act.put, List.setIfInBounds_toArray, List.set_cons_zero, List.set_cons_succ]
  refine wpAnyH_take (i := 14) (oi := ⟨some 18, .fieldAddr 27 (.tmp 1) 7, _, _, _, none⟩) (v := .pointer (some ⟨w.heap.size, 69, none⟩)) rfl (by kernel_rfl) (by kernel_rfl) (by kernel_rfl) (fun _ _ _ h => h) (Or.inl ⟨by rfl, by intro W hW; go_simp⟩) hHeld ?_
  simp only [Act.put, List.setIfInBounds_toArray, List.set_cons_zero, List.set_cons_succ]
  refine wpAnyH_take (i := 15) (oi := ⟨some 19, .load 23 (.tmp 18), _, _, _, none⟩) (v := .int .u64 cl) rfl (by kernel_rfl) (by kernel_rfl) (by kernel_rfl) (fun _ _ _ h => h) (Or.inl ⟨by rfl, by intro W hW; have q := (HS.out W hW).cl; go_simp⟩) hHeld ?_
  simp only [Act.put, List.setIfInBounds_toArray, List.set_cons_zero, List.set_cons_succ]
  refine wpAnyH_take (i := 16) (oi := ⟨some 20, .fieldAddr 27 (.tmp 1) 8, _, _, _, none⟩) (v := .pointer (some ⟨w.heap.size, 70, none⟩)) rfl (by kernel_rfl) (by kernel_rfl) (by kernel_rfl) (fun _ _ _ h => h) (Or.inl ⟨by rfl, by intro W hW; go_simp⟩) hHeld ?_
  simp only [Act.put, List.setIfInBounds_toArray, List.set_cons_zero, List.set_cons_succ]
  refine wpAnyH_take (i := 17) (oi := ⟨some 21, .load 25 (.tmp 20), _, _, _, none⟩) (v := .slice ho hm hc) rfl (by kernel_rfl) (by kernel_rfl) (by kernel_rfl) (fun _ _ _ h => h) (Or.inl ⟨by rfl, by intro W hW; have q := (HS.out W hW).hs; go_simp⟩) hHeld ?_
  simp only [Act.put, List.setIfInBounds_toArray, List.set_cons_zero, List.set_cons_succ]
  refine wpAnyH_take (i := 20) (oi := ⟨some 24, .fieldAddr 27 (.tmp 1) 16, _, _, _, none⟩) (v := .pointer (some ⟨w.heap.size, 171, none⟩)) rfl (by kernel_rfl) (by kernel_rfl) (by kernel_rfl) (fun _ _ _ h => h) (Or.inl ⟨by rfl, by intro W hW; go_simp⟩) hHeld ?_
  simp only [Act.put, List.setIfInBounds_toArray, List.set_cons_zero, List.set_cons_succ]
  refine wpAnyH_take (i := 21) (oi := ⟨some 25, .load 22 (.tmp 24), _, _, _, none⟩) (v := .slice fo fm fc) rfl (by kernel_rfl) (by kernel_rfl) (by kernel_rfl) (fun _ _ _ h => h) (Or.inl ⟨by rfl, by intro W hW; have q := (HS.out W hW).frag; go_simp⟩) hHeld ?_
  simp only [Act.put, List.setIfInBounds_toArray, List.set_cons_zero, List.set_cons_succ]
  have B0 : Hid (Below w.heap.size w (w.alloc (.cells L 27)).drew) := Hid.mk (((Below.refl _ w).alloc (Nat.le_refl _) _).drew)
  have DV0 := Hid.mk (HV.out.later B0.out (show w.heap.size ≤ (w.alloc (.cells L 27)).drew.heap.size by simp))
  refine wpAnyH_ready (rs := [13]) (by kernel_rfl) (by simp) (AllReadyH.cons rfl (fun K hK => ?_) AllReadyH.nil)
  go_simp
  refine (macs10 vm vc vo vds hvm hvn _ DV0.out).mono ?_
  rintro e w1 ⟨vo', vc', rfl, d1, hb1⟩
  have D1 := Hid.mk d1
  have hz1 : w.heap.size + 1 ≤ w1.heap.size := by have := hb1.size; simp at this; omega
  have B1 : Hid (Below w.heap.size w w1) := Hid.mk (B0.out.trans (hb1.mono (by simp)))
  have hS1 : w1.heap[w.heap.size]? = some (.cells L 27 (0, 0)) := by rw [hb1.block _ (by simp)]; exact hHeld
  clear d1 hb1 DV0 B0
  try simp only []
  refine hK.out _ _ hS1 (fun hHeld => ?_)
  clear hK K hS1
  try simp only [Act.put, List.setIfInBounds_toArray, List.set_cons_zero, List.set_cons_succ]
  have DH1 := Hid.mk (HH.out.later B1.out (show w.heap.size ≤ w1.heap.size by omega))
  refine wpAnyH_ready (rs := [18]) (by kernel_rfl) (by simp) (AllReadyH.cons rfl (fun K hK => ?_) AllReadyH.nil)
  go_simp
  refine (hashes11 hm hc ho hds hhm hhn _ DH1.out).mono ?_
  rintro e w2 ⟨ho', hc', rfl, d2, hb2⟩
  have D2 := Hid.mk d2
  have hz2 : w1.heap.size ≤ w2.heap.size := hb2.size
  have D1' := Hid.mk (D1.out.later hb2 hz2)
  have B2 : Hid (Below w.heap.size w w2) := Hid.mk (B1.out.trans (hb2.mono (by omega)))
  have hS2 : w2.heap[w.heap.size]? = some (.cells L 27 (0, 0)) := by rw [hb2.block _ (by omega)]; exact hHeld
  clear d2 hb2 DH1 B1 D1
  try simp only []
  refine hK.out _ _ hS2 (fun hHeld => ?_)
  clear hK K hS2
  try simp only [Act.put, List.setIfInBounds_toArray, List.set_cons_zero, List.set_cons_succ]
  have HF2 := Hid.mk (HF.out.later B2.out (show w.heap.size ≤ w2.heap.size by omega))
  refine wpAnyH_take (i := 19) (oi := ⟨some 23, .build 44 #[(0, .tmp 19), (1, .tmp 22)], _, _, _, none⟩) (v := .agg (#[.int .u64 cl, .slice ho' hm hc'])) rfl (by kernel_rfl) (by kernel_rfl) (by kernel_rfl) (fun _ _ _ h => h) (yields_build (by rfl) 44 #[(0, .tmp 19), (1, .tmp 22)] rfl _ (by simp only [List.map_toArray, List.map_cons, List.map_nil]; exact b44 cl ho' hm hc')) hHeld ?_
  simp only [Act.put, List.setIfInBounds_toArray, List.set_cons_zero, List.set_cons_succ]
  refine wpAnyH_ready (rs := [22]) (by kernel_rfl) (by simp) (AllReadyH.cons rfl (fun K hK => ?_) AllReadyH.nil)
  rw [if_pos (by rfl)]
  refine wp_app (.const (.slice none 0 0)) (.tmp 25) rfl w2.heap.size (.slice none 0 0) 0 [] rfl (World.ownsRow_nil _ _ _ _) fo fm fc (Lib.byteCells fds) rfl (by rw [Lib.byteCells_length]; exact HF2.out.len) HF2.out.none (by intro ad had j u hu; exact (HF2.out.lies ad had j u hu).2) (byteCells_one _) (by omega) (Nat.le_refl _) ?_
  intro v3 w3 ho3 ha3
  have hb3 : Below w2.heap.size w2 w3 := ha3.below (Nat.le_refl _) (fun k hk => by cases hk)
  obtain ⟨fo', fc', hv3⟩ := own_form ho3
  rw [Nat.zero_add] at hv3
  subst hv3
  have hz3 : w2.heap.size ≤ w3.heap.size := hb3.size
  have D1'' := Hid.mk (D1'.out.later hb3 hz3)
  have D2' := Hid.mk (D2.out.later hb3 hz3)
  have B3 : Hid (Below w.heap.size w w3) := Hid.mk (B2.out.trans (hb3.mono (by omega)))
  have hS3 : w3.heap[w.heap.size]? = some (.cells L 27 (0, 0)) := by rw [hb3.block _ (by omega)]; exact hHeld
  clear ho3 ha3 hb3 HF2 B2 D1' D2
  refine hK.out _ _ hS3 (fun hHeld => ?_)
  clear hK K hS3
  try simp only [Act.put, List.setIfInBounds_toArray, List.set_cons_zero, List.set_cons_succ]
  refine wpAnyH_take (i := 23) (oi := ⟨some 27, .build 49 #[(0, .tmp 5), (1, .tmp 12), (2, .tmp 14), (3, .tmp 17), (4, .tmp 23), (6, .tmp 26)], _, _, _, none⟩) (v := .agg ((reqL key x y tag non (.slice vo' vm vc') cl (.slice ho' hm hc') (candL 0 0 z32 z32 z32 (.slice none 0 0)) (.slice fo' fm fc')).toArray)) rfl (by kernel_rfl) (by kernel_rfl) (by kernel_rfl) (fun _ _ _ h => h) (yields_build (by rfl) 49 #[(0, .tmp 5), (1, .tmp 12), (2, .tmp 14), (3, .tmp 17), (4, .tmp 23), (6, .tmp 26)] rfl _ (by simp only [List.map_toArray, List.map_cons, List.map_nil]; exact b49 key x y tag non vo' vm vc' cl ho' hm hc' fo' fm fc' ht hn)) hHeld ?_
  simp only [Act.put, List.setIfInBounds_toArray, List.set_cons_zero, List.set_cons_succ]
  generalize hR : (reqL key x y tag non (.slice vo' vm vc') cl (.slice ho' hm hc') (candL 0 0 z32 z32 z32 (.slice none 0 0)) (.slice fo' fm fc')).toArray = R
  refine wpAnyH_ready (rs := [24]) (by kernel_rfl) (by simp) (AllReadyH.cons rfl (fun K hK => ?_) AllReadyH.nil)
  go_simp
  refine hK.out _ _ ((heap_alloc_old w3 _ (by omega)).trans hHeld) (fun hHeld => ?_)
  clear hK K
  refine wpAnyH_ready (rs := [25]) (by kernel_rfl) (by simp) (AllReadyH.cons rfl (fun K hK => ?_) AllReadyH.nil)
  go_simp
  refine hK.out _ _ hHeld (fun hHeld => ?_)
  clear hK K
  refine wpAnyH_done (by kernel_rfl) ?_ _
  have q := (HS.out _ hHeld).don
  go_wp2_with fail
  have BW : Hid (Below w3.heap.size w3 (w3.alloc (.cells R 49)).drew) := Hid.mk (((Below.refl _ w3).alloc (Nat.le_refl _) _).drew)
  refine wp_region_held_drew (S := fun W => W.heap[w.heap.size]? = some (.cells L 27 (0, 0))) (by kernel_rfl) hHeld (fun hHeld => ?_)
  refine wpAnyH_take (i := 0) (oi := ⟨some 31, .move (.tmp 3), _, _, _, none⟩) (v := .pointer (some ⟨w3.heap.size, 0, none⟩)) rfl (by kernel_rfl) (by kernel_rfl) (by kernel_rfl) (fun _ _ _ h => h) (Or.inl ⟨by rfl, by intro W hW; go_simp⟩) hHeld ?_
  simp only [Act.put, List.setIfInBounds_toArray, List.set_cons_zero, List.set_cons_succ]
  refine wpAnyH_take (i := 1) (oi := ⟨some 32, .fieldAddr 27 (.tmp 1) 10, _, _, _, none⟩) (v := .pointer (some ⟨w.heap.size, 72, none⟩)) rfl (by kernel_rfl) (by kernel_rfl) (by kernel_rfl) (fun _ _ _ h => h) (Or.inl ⟨by rfl, by intro W hW; go_simp⟩) hHeld ?_
  simp only [Act.put, List.setIfInBounds_toArray, List.set_cons_zero, List.set_cons_succ]
  refine wpAnyH_take (i := 2) (oi := ⟨some 33, .load 23 (.tmp 32), _, _, _, none⟩) (v := .int .u64 dx) rfl (by kernel_rfl) (by kernel_rfl) (by kernel_rfl) (fun _ _ _ h => h) (Or.inl ⟨by rfl, by intro W hW; have q := (HS.out W hW).dx; go_simp⟩) hHeld ?_
  simp only [Act.put, List.setIfInBounds_toArray, List.set_cons_zero, List.set_cons_succ]
  refine wpAnyH_take (i := 3) (oi := ⟨some 34, .fieldAddr 27 (.tmp 1) 11, _, _, _, none⟩) (v := .pointer (some ⟨w.heap.size, 73, none⟩)) rfl (by kernel_rfl) (by kernel_rfl) (by kernel_rfl) (fun _ _ _ h => h) (Or.inl ⟨by rfl, by intro W hW; go_simp⟩) hHeld ?_
  simp only [Act.put, List.setIfInBounds_toArray, List.set_cons_zero, List.set_cons_succ]
  refine wpAnyH_take (i := 4) (oi := ⟨some 35, .load 23 (.tmp 34), _, _, _, none⟩) (v := .int .u64 dy) rfl (by kernel_rfl) (by kernel_rfl) (by kernel_rfl) (fun _ _ _ h => h) (Or.inl ⟨by rfl, by intro W hW; have q := (HS.out W hW).dy; go_simp⟩) hHeld ?_
  simp only [Act.put, List.setIfInBounds_toArray, List.set_cons_zero, List.set_cons_succ]
  refine wpAnyH_take (i := 5) (oi := ⟨some 36, .fieldAddr 27 (.tmp 1) 12, _, _, _, none⟩) (v := .pointer (some ⟨w.heap.size, 74, none⟩)) rfl (by kernel_rfl) (by kernel_rfl) (by kernel_rfl) (fun _ _ _ h => h) (Or.inl ⟨by rfl, by intro W hW; go_simp⟩) hHeld ?_
  simp only [Act.put, List.setIfInBounds_toArray, List.set_cons_zero, List.set_cons_succ]
  refine wpAnyH_take (i := 6) (oi := ⟨some 37, .load 24 (.tmp 36), _, _, _, none⟩) (v := .agg (Lib.byteCells dtag).toArray) rfl (by kernel_rfl) (by kernel_rfl) (by kernel_rfl) (fun _ _ _ h => h) (yieldsIf_load_mid (by rfl) 24 (.tmp 36) rfl w.heap.size 74 rfl (Lib.byteCells dtag) _ (fun W hW j u hu => by have := (HS.out W hW).dtag j u hu; rwa [add_at] at this) Yba.underlying24 rfl (by rw [info24, bc_len dtag hdt])) hHeld ?_
  simp only [Act.put, List.setIfInBounds_toArray, List.set_cons_zero, List.set_cons_succ]
  refine wpAnyH_take (i := 7) (oi := ⟨some 38, .build 36 #[(0, .tmp 33), (1, .tmp 35), (2, .tmp 37)], _, _, _, none⟩) (v := .agg ((tsL dx dy dtag).toArray)) rfl (by kernel_rfl) (by kernel_rfl) (by kernel_rfl) (fun _ _ _ h => h) (yields_build (by rfl) 36 #[(0, .tmp 33), (1, .tmp 35), (2, .tmp 37)] rfl _ (by simp only [List.map_toArray, List.map_cons, List.map_nil]; exact b36 dx dy dtag hdt)) hHeld ?_
  simp only [Act.put, List.setIfInBounds_toArray, List.set_cons_zero, List.set_cons_succ]
  refine wpAnyH_take (i := 8) (oi := ⟨some 39, .fieldAddr 27 (.tmp 1) 13, _, _, _, none⟩) (v := .pointer (some ⟨w.heap.size, 106, none⟩)) rfl (by kernel_rfl) (by kernel_rfl) (by kernel_rfl) (fun _ _ _ h => h) (Or.inl ⟨by rfl, by intro W hW; go_simp⟩) hHeld ?_
  simp only [Act.put, List.setIfInBounds_toArray, List.set_cons_zero, List.set_cons_succ]
  refine wpAnyH_take (i := 9) (oi := ⟨some 40, .load 24 (.tmp 39), _, _, _, none⟩) (v := .agg (Lib.byteCells dnon).toArray) rfl (by kernel_rfl) (by kernel_rfl) (by kernel_rfl) (fun _ _ _ h => h) (yieldsIf_load_mid (by rfl) 24 (.tmp 39) rfl w.heap.size 106 rfl (Lib.byteCells dnon) _ (fun W hW j u hu => by have := (HS.out W hW).dnon j u hu; rwa [add_at] at this) Yba.underlying24 rfl (by rw [info24, bc_len dnon hdn])) hHeld ?_
  simp only [Act.put, List.setIfInBounds_toArray, List.set_cons_zero, List.set_cons_succ]
  refine wpAnyH_take (i := 10) (oi := ⟨some 41, .fieldAddr 27 (.tmp 1) 14, _, _, _, none⟩) (v := .pointer (some ⟨w.heap.size, 138, none⟩)) rfl (by kernel_rfl) (by kernel_rfl) (by kernel_rfl) (fun _ _ _ h => h) (Or.inl ⟨by rfl, by intro W hW; go_simp⟩) hHeld ?_
  simp only [Act.put, List.setIfInBounds_toArray, List.set_cons_zero, List.set_cons_succ]
  refine wpAnyH_take (i := 11) (oi := ⟨some 42, .load 24 (.tmp 41), _, _, _, none⟩) (v := .agg (Lib.byteCells ddig).toArray) rfl (by kernel_rfl) (by kernel_rfl) (by kernel_rfl) (fun _ _ _ h => h) (yieldsIf_load_mid (by rfl) 24 (.tmp 41) rfl w.heap.size 138 rfl (Lib.byteCells ddig) _ (fun W hW j u hu => by have := (HS.out W hW).ddig j u hu; rwa [add_at] at this) Yba.underlying24 rfl (by rw [info24, bc_len ddig hdg])) hHeld ?_
  simp only [Act.put, List.setIfInBounds_toArray, List.set_cons_zero, List.set_cons_succ]
  refine wpAnyH_take (i := 12) (oi := ⟨some 43, .fieldAddr 27 (.tmp 1) 15, _, _, _, none⟩) (v := .pointer (some ⟨w.heap.size, 170, none⟩)) rfl (by kernel_rfl) (by kernel_rfl) (by kernel_rfl) (fun _ _ _ h => h) (Or.inl ⟨by rfl, by intro W hW; go_simp⟩) hHeld ?_
  simp only [Act.put, List.setIfInBounds_toArray, List.set_cons_zero, List.set_cons_succ]
  refine wpAnyH_take (i := 13) (oi := ⟨some 44, .load 25 (.tmp 43), _, _, _, none⟩) (v := .slice dob dm dc) rfl (by kernel_rfl) (by kernel_rfl) (by kernel_rfl) (fun _ _ _ h => h) (Or.inl ⟨by rfl, by intro W hW; have q := (HS.out W hW).dvec; go_simp⟩) hHeld ?_
  simp only [Act.put, List.setIfInBounds_toArray, List.set_cons_zero, List.set_cons_succ]
  have DD := Hid.mk (HD.out.later (B3.out.trans (BW.out.mono (by omega))) (show w.heap.size ≤ (w3.alloc (.cells R 49)).drew.heap.size by simp; omega))
  refine wpAnyH_ready (rs := [14]) (by kernel_rfl) (by simp) (AllReadyH.cons rfl (fun K hK => ?_) AllReadyH.nil)
  go_simp
  refine (macs10b dm dc dob dds hdm hdon _ DD.out).mono ?_
  rintro e w5 ⟨do', dc', rfl, hdo, d5, hb5⟩
  have D5 := Hid.mk d5
  have HDO := Hid.mk hdo
  have hz5 : w3.heap.size + 1 ≤ w5.heap.size := by have := hb5.size; simp at this; omega
  have B5 : Hid (Below w3.heap.size w3 w5) := Hid.mk (BW.out.trans (hb5.mono (by simp)))
  have hR5 : Hid (w5.heap[w3.heap.size]? = some (.cells R 49 (0, 0))) := Hid.mk (by rw [hb5.block _ (by simp)]; exact heap_alloc_new w3 _)
  have hS5 : w5.heap[w.heap.size]? = some (.cells L 27 (0, 0)) := by rw [hb5.block _ (by simp; omega)]; exact hHeld
  clear d5 hb5 DD BW hdo
  try simp only []
  refine hK.out _ _ hS5 (fun hHeld => ?_)
  clear hK K hS5
  try simp only [Act.put, List.setIfInBounds_toArray, List.set_cons_zero, List.set_cons_succ]
  refine wpAnyH_take (i := 15) (oi := ⟨some 46, .build 47 #[(0, .tmp 38), (1, .tmp 40), (2, .tmp 42), (3, .tmp 45)], _, _, _, none⟩) (v := .agg ((candL dx dy dtag dnon ddig (.slice do' dm dc')).toArray)) rfl (by kernel_rfl) (by kernel_rfl) (by kernel_rfl) (fun _ _ _ h => h) (yields_build (by rfl) 47 #[(0, .tmp 38), (1, .tmp 40), (2, .tmp 42), (3, .tmp 45)] rfl _ (by simp only [List.map_toArray, List.map_cons, List.map_nil]; exact b47 dx dy dtag dnon ddig do' dm dc' hdt hdn hdg)) hHeld ?_
  simp only [Act.put, List.setIfInBounds_toArray, List.set_cons_zero, List.set_cons_succ]
  refine wpAnyH_take (i := 16) (oi := ⟨some 47, .nilCheck (.tmp 31), _, _, _, none⟩) (v := .pointer (some ⟨w3.heap.size, 0, none⟩)) rfl (by kernel_rfl) (by kernel_rfl) (by kernel_rfl) (fun _ _ _ h => h) (Or.inl ⟨by rfl, by intro W hW; go_simp⟩) hHeld ?_
  simp only [Act.put, List.setIfInBounds_toArray, List.set_cons_zero, List.set_cons_succ]
  refine wpAnyH_take (i := 17) (oi := ⟨some 48, .fieldAddr 49 (.tmp 47) 5, _, _, _, none⟩) (v := .pointer (some ⟨w3.heap.size, 70, none⟩)) rfl (by kernel_rfl) (by kernel_rfl) (by kernel_rfl) (fun _ _ _ h => h) (Or.inl ⟨by rfl, by intro W hW; go_simp⟩) hHeld ?_
  simp only [Act.put, List.setIfInBounds_toArray, List.set_cons_zero, List.set_cons_succ]
  have hl99 : Hid ((candL dx dy dtag dnon ddig (.slice do' dm dc')).length = 99) := Hid.mk (candL_length hdt hdn hdg)
  have hRs : Hid (R.size = 170) := Hid.mk (by rw [← hR, List.size_toArray]; exact req_size _ _ _ _ _ _ _ _ _ _ ht hn (candL_length rfl rfl rfl))
  refine wpAnyH_ready (rs := [18]) (by kernel_rfl) (by simp) (AllReadyH.cons rfl (fun K hK => ?_) AllReadyH.nil)
  rw [if_pos (by rfl)]
  refine wp_store_row (.tmp 48) (.tmp 46) 47 rfl w3.heap.size 70 rfl (candL dx dy dtag dnon ddig (.slice do' dm dc')) rfl R 49 hR5.out (by rw [hl99.out]; exact Yba.sizeOf47) (by rw [hl99.out, hRs.out]; omega) (cand_one _ _ _ _ _ _ _ _) ?_
  have hput : (R.toList.take 70 ++ (candL dx dy dtag dnon ddig (.slice do' dm dc') ++ R.toList.drop (70 + (candL dx dy dtag dnon ddig (.slice do' dm dc')).length))) = reqL key x y tag non (.slice vo' vm vc') cl (.slice ho' hm hc') (candL dx dy dtag dnon ddig (.slice do' dm dc')) (.slice fo' fm fc') := by
    rw [← hR]
    exact req_put _ _ _ _ _ _ _ _ _ _ _ ht hn (candL_length rfl rfl rfl) hl99.out
  rw [hput]
  have hN : w.heap.size ≠ w3.heap.size := by omega
  refine hK.out _ _ ((setRow_other w5 w3.heap.size w.heap.size _ hN).trans hHeld) (fun hHeld => ?_)
  clear hK K
  refine wpAnyH_done (by kernel_rfl) ?_ _
  have B6 : Hid (Below w3.heap.size w3 (w5.setRow w3.heap.size (reqL key x y tag non (.slice vo' vm vc') cl (.slice ho' hm hc') (candL dx dy dtag dnon ddig (.slice do' dm dc')) (.slice fo' fm fc')).toArray)) := Hid.mk (below_setRow B5.out (Nat.le_refl _) _)
  have D6 : Hid (Dg (w5.setRow w3.heap.size (reqL key x y tag non (.slice vo' vm vc') cl (.slice ho' hm hc') (candL dx dy dtag dnon ddig (.slice do' dm dc')) (.slice fo' fm fc')).toArray) w5.heap.size do' dm dds) := Hid.mk ⟨D5.out.len, fun hm0 => by
    obtain ⟨ad, e, hlb, hc⟩ := D5.out.lies hm0
    refine ⟨ad, e, hlb, fun j u hu => ?_⟩
    have hne : ad.block ≠ w3.heap.size := by
      rcases HDO.out with h | h
      · rw [h] at e; cases e
      · rw [h] at e; cases e; simp
    rw [cell_setRow_other _ _ _ _ (by rw [add_block]; exact hne)]
    exact hc j u hu⟩
  have hq6 : Hid ((w5.setRow w3.heap.size (reqL key x y tag non (.slice vo' vm vc') cl (.slice ho' hm hc') (candL dx dy dtag dnon ddig (.slice do' dm dc')) (.slice fo' fm fc')).toArray).heap[w3.heap.size]? = some (.cells (reqL key x y tag non (.slice vo' vm vc') cl (.slice ho' hm hc') (candL dx dy dtag dnon ddig (.slice do' dm dc')) (.slice fo' fm fc')).toArray 49 (0, 0))) := Hid.mk (setRow_heap w5 w3.heap.size R _ 49 _ hR5.out)
  have hz6 : Hid ((w5.setRow w3.heap.size (reqL key x y tag non (.slice vo' vm vc') cl (.slice ho' hm hc') (candL dx dy dtag dnon ddig (.slice do' dm dc')) (.slice fo' fm fc')).toArray).heap.size = w5.heap.size) := Hid.mk (by simp [World.setRow])
  generalize w5.setRow w3.heap.size (reqL key x y tag non (.slice vo' vm vc') cl (.slice ho' hm hc') (candL dx dy dtag dnon ddig (.slice do' dm dc')) (.slice fo' fm fc')).toArray = w6 at *
  go_wp2_with fail
  go_ret
  exact ⟨w3.heap.size, vo', vc', ho', hc', do', dc', fo', fc', rfl, hq6.out, D1''.out.later B6.out (by rw [hz6.out]; omega), D2'.out.later B6.out (by rw [hz6.out]; omega), by rw [hz6.out]; exact D6.out, B3.out.trans (B6.out.mono (by omega))⟩
end Go.Proofs.Ybulkoxq
