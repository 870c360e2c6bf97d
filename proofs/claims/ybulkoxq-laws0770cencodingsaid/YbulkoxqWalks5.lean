import Derived.Test.YbulkoxqWalks4
import Derived.Laws.IdiomStrings
set_option linter.unusedVariables false
set_option linter.unusedSimpArgs false
namespace Go.Proofs.Ybulkoxq
open Go.RowKit

theorem cell_boxF {w : World} {g : Nat} {c : Array Value} {t : TypeId} {fz : Nat × Nat} (h : w.heap[g]? = some (.cells c t fz)) (j : Nat) (u : Value) (hu : c[j]? = some u) : w.cell? ⟨g, j, none⟩ = some u := by
  simp [World.cell?, h, hu]

/-- '[]byte(s)'. -/
theorem op_bytes {w : World} {ops : Array Oper} {rest : List Oper} {o : Oper} {a : Act} {Q : Exit → Act → World → Prop} (hw : Region.wanted o (yielded ops a.tmps) = true) (x : Operand) (ho : o.op = .convert 9 22 x)
    (s : ByteArray) (hx : a.eval x = .string s)
    (h : ∀ c w', w.grownBy w' none → w.heap.size < w'.heap.size → (∀ j u, (Lib.byteCells s.data.toList)[j]? = some u → w'.cell? ((⟨w.heap.size, 0, none⟩ : Addr).add j) = some u) → wpList Yba.prog ops Q rest (a.put o.dst (.slice (some ⟨w.heap.size, 0, none⟩) s.size c)) w') : wpList Yba.prog ops Q (o :: rest) a w := by
  refine wpList_step fun K hK => ?_
  rw [if_pos hw]
  have hr := run_bytes_of_string (P := Yba.prog) w 9 22 5 s Yba.underlying9 Yba.underlying22 Yba.underlying5
  unfold Oper.wp execOp
  simp only [ho, hx, Sem.run_bind, hr, Result.andThen_ok, Sem.run_pure]
  refine hK _ _ (h _ _ ⟨rfl, rfl, rfl, by simp, fun k hk _ => heap_alloc_old w.drew _ hk⟩ (by simp) ?_)
  intro j u hu
  rw [add_at, Nat.zero_add]
  have hj : j < s.data.size := by
    have := (List.getElem?_eq_some_iff.1 hu).1
    simpa [Lib.byteCells] using this
  have hr : (bytesRow s (grownCap w s.size 0 5))[j]? = some u := by
    rw [bytesRow, Array.getElem?_append_left (by simpa using hj)]
    simpa [Lib.byteCells] using hu
  exact cell_boxF (heap_alloc_new w.drew _) j u hr

/-- The cells of a request. -/
def reqL (key : ByteArray) (x y : Nat) (tag non : List UInt8) (vec : Value) (cl : Nat) (hs : Value) (done : List Value) (frag : Value) : List Value :=
  .string key :: (tsL x y tag ++ (Lib.byteCells non ++ (vec :: .int .u64 cl :: hs :: (done ++ [frag]))))

/-- What 'appendBody' appends. -/
def bodyL (key : ByteArray) (x y : Nat) (tag non : List UInt8) (vm : Nat) (vds : List UInt8) (cl hm : Nat) (hds : List UInt8) (opt : List Value) (fm : Nat) : List Value :=
  uvl key.size ++ (Lib.byteCells key.data.toList ++ (bel x ++ (bel y ++ (Lib.byteCells tag ++ (Lib.byteCells non ++ (uvl vm ++ (Lib.byteCells vds ++ (bel cl ++ (uvl hm ++ (Lib.byteCells hds ++ (opt ++ uvl fm)))))))))))

/-- Where the parts of a request lie. -/
structure Req (w : World) (q : Nat) (key : ByteArray) (x y : Nat) (tag non : List UInt8) (vec : Value) (cl : Nat) (hs : Value) (done : List Value) (frag : Value) : Prop where
  key : w.cell? ⟨q, 0, none⟩ = some (.string key)
  ts : ∀ j u, (tsL x y tag)[j]? = some u → w.cell? ((⟨q, 1, none⟩ : Addr).add j) = some u
  non : ∀ j u, (Lib.byteCells non)[j]? = some u → w.cell? ((⟨q, 35, none⟩ : Addr).add j) = some u
  vec : w.cell? ⟨q, 67, none⟩ = some vec
  cl : w.cell? ⟨q, 68, none⟩ = some (.int .u64 cl)
  hs : w.cell? ⟨q, 69, none⟩ = some hs
  done : ∀ j u, done[j]? = some u → w.cell? ((⟨q, 70, none⟩ : Addr).add j) = some u
  frag : w.cell? ⟨q, 169, none⟩ = some frag

theorem Req.mk' {w : World} {q : Nat} {key : ByteArray} {x y : Nat} {tag non : List UInt8} {vec : Value} {cl : Nat} {hs : Value} {done : List Value} {frag : Value} (ht : tag.length = 32) (hn : non.length = 32) (hd : done.length = 99)
    (hb : w.heap[q]? = some (.cells (reqL key x y tag non vec cl hs done frag).toArray 49 (0, 0))) : Req w q key x y tag non vec cl hs done frag := by
  have l1 : (tsL x y tag).length = 34 := tsL_length ht
  have l2 : (Lib.byteCells non).length = 32 := by rw [Lib.byteCells_length, hn]
  refine ⟨cell_box hb 0 _ (by simp [reqL]), cells_of hb (mid (pre := [.string key]) (post := Lib.byteCells non ++ (vec :: .int .u64 cl :: hs :: (done ++ [frag]))) (by simp [reqL]) rfl), cells_of hb (mid (pre := .string key :: tsL x y tag) (post := vec :: .int .u64 cl :: hs :: (done ++ [frag])) (by simp [reqL]) (by simp [l1])), ?_, ?_, ?_, cells_of hb (mid (pre := .string key :: (tsL x y tag ++ (Lib.byteCells non ++ [vec, .int .u64 cl, hs]))) (post := [frag]) (by simp [reqL]) (by simp [l1, l2])), ?_⟩
  · exact cell_box hb 67 _ (mid (l := [vec]) (pre := .string key :: (tsL x y tag ++ Lib.byteCells non)) (post := .int .u64 cl :: hs :: (done ++ [frag])) (o := 67) (by simp [reqL]) (by simp [l1, l2]) 0 vec rfl)
  · exact cell_box hb 68 _ (mid (l := [.int .u64 cl]) (pre := .string key :: (tsL x y tag ++ (Lib.byteCells non ++ [vec]))) (post := hs :: (done ++ [frag])) (o := 68) (by simp [reqL]) (by simp [l1, l2]) 0 _ rfl)
  · exact cell_box hb 69 _ (mid (l := [hs]) (pre := .string key :: (tsL x y tag ++ (Lib.byteCells non ++ [vec, .int .u64 cl]))) (post := done ++ [frag]) (o := 69) (by simp [reqL]) (by simp [l1, l2]) 0 _ rfl)
  · exact cell_box hb 169 _ (mid (l := [frag]) (pre := .string key :: (tsL x y tag ++ (Lib.byteCells non ++ (vec :: .int .u64 cl :: hs :: done)))) (post := []) (o := 169) (by simp [reqL]) (by simp [l1, l2, hd]) 0 _ rfl)

set_option maxHeartbeats 2000000 in
/-- 'appendBody'. -/
theorem body7 (B n q : Nat) (key : ByteArray) (x y : Nat) (tag non : List UInt8) (vo ho fo : Option Addr) (vm vc hm hc fm fc cl : Nat) (vds hds : List UInt8) (dx dy dm dc : Nat) (dtag dnon ddig dds : List UInt8) (dob : Option Addr)
    (hk : key.size ≤ 1024) (hx : x < 18446744073709551616) (hy : y < 18446744073709551616) (ht : tag.length = 32) (hn : non.length = 32) (hvm : vm ≤ 1024) (hhm : hm ≤ 1024) (hfm : fm ≤ 1024) (hcl : cl < 18446744073709551616)
    (hdx : dx < 18446744073709551616) (hdy : dy < 18446744073709551616) (hdt : dtag.length = 32) (hdn : dnon.length = 32) (hdg : ddig.length = 32) (hdm : dm ≤ 1024)
    (v : Value) (xs : List Value) (w : World) (hown : w.ownsRow B 5 1 v n xs) (hB : B ≤ w.heap.size) (hlim : n + 10000000 ≤ 140737488355328)
    (hqB : q < B) (hb : w.heap[q]? = some (.cells (reqL key x y tag non (.slice vo vm vc) cl (.slice ho hm hc) (candL dx dy dtag dnon ddig (.slice dob dm dc)) (.slice fo fm fc)).toArray 49 (0, 0)))
    (hv : Dg w B vo vm vds) (hh : Dg w B ho hm hds) (hd : Dg w B dob dm dds) :
    Calls Yba.prog 7 #[.pointer (some ⟨q, 0, none⟩), v] w fun e w' => ∃ N v', e = .returned v' ∧ w'.ownsRow B 5 1 v' N (xs ++ bodyL key x y tag non vm vds cl hm hds (optL dx dy dtag dnon ddig dm dds) fm) ∧ Ap w v w' v' := by
  have HO := Hid.mk hown
  have HG := Hid.mk (own_ge hown)
  have HT := Hid.mk ht
  have HN := Hid.mk hn
  have l1 : Hid ((tsL x y tag).length = 34) := Hid.mk (tsL_length ht)
  have l2 : Hid ((candL dx dy dtag dnon ddig (.slice dob dm dc)).length = 99) := Hid.mk (candL_length hdt hdn hdg)
  have HR : Hid (∀ W V, Ap w v W V → Req W q key x y tag non (.slice vo vm vc) cl (.slice ho hm hc) (candL dx dy dtag dnon ddig (.slice dob dm dc)) (.slice fo fm fc)) := Hid.mk (by
    intro W V h
    refine Req.mk' ht hn l2.out ?_
    rw [h.block (Array.getElem?_eq_some_iff.1 hb).1 fun e => by have := HG.out _ e; omega]
    exact hb)
  have HV : Hid (∀ W V, Ap w v W V → Dg W B vo vm vds ∧ Dg W B ho hm hds ∧ Dg W B dob dm dds ∧ B ≤ W.heap.size) := Hid.mk (fun W V h => ⟨hv.later (h.below hB HG.out) (Nat.le_refl _), hh.later (h.below hB HG.out) (Nat.le_refl _), hd.later (h.below hB HG.out) (Nat.le_refl _), Nat.le_trans hB h.grown.size⟩)
  have u1 : ∀ m, (uvl m).length ≤ 2 := by intro m; unfold uvl; split <;> simp
  have HU := Hid.mk u1
  have hk0 := (HR.out _ _ (Ap.refl w v)).key
  have HOPT := Hid.mk (fun n hlim v xs W ho hB hd => opt16 B n dx dy dm dc dtag dnon ddig dds dob hdx hdy hdt hdn hdg hdm v xs W ho hB hlim hd)
  have HOL : Hid ((optL dx dy dtag dnon ddig dm dds).length ≤ 40000) := Hid.mk (by
    have := u1 dm
    unfold optL
    split
    · simp
    · simp [bel, Lib.byteCells_length, hdt, hdn, hdg, hd.len]
      omega)
  clear hown hb hv hh hd ht hn hdt hdn hdg u1
  go_enter Yba.func7, Yba.ntmps7
  go_wp2_with (refine op_bytes rfl (.tmp 9) rfl key rfl ?_; intro c1 w1 hg1 hs1 hc1; have HA1 := Hid.mk (show Ap w v w1 v from ⟨⟨hg1.os, hg1.tape, hg1.output, hg1.size, fun k hk _ => hg1.block k hk (fun e => by cases e)⟩, .inl rfl⟩); have HO1 := Hid.mk (HO.out.kept hg1 (by first | exact .inl rfl | (cases hvb : v.ownBlock with | none => exact .inl rfl | some k => exact .inr (by simp)))); have HC1 := Hid.mk hc1; clear hg1 hc1)
  have hB1 : B ≤ w1.heap.size := Nat.le_trans hB HA1.out.grown.size
  refine (bytes12 B n key.size c1 _ hk key.data.toList (by rw [Array.length_toList]; rfl) v xs w1 HO1.out hB1 (by omega) (by intro h; cases h) (by intro ad had; cases had; exact ⟨fun e => by have := (HO.out.lt _ e).2; simp at this, HC1.out⟩)).mono ?_
  rintro e w2 ⟨v2, rfl, ho2, ha2⟩
  have HO2 := Hid.mk ho2
  have HA2 := Hid.mk (HA1.out.trans ha2)
  have q2 := Hid.mk (HR.out _ _ HA2.out).ts
  have hB2 := (HV.out _ _ HA2.out).2.2.2
  have hU1 := HU.out key.size
  clear ho2 ha2 HO1 HA1 HC1 hs1 hk0
  go_wp2_with (refine load_agg rfl (.tmp 15) 36 rfl Yba.isAgg36 34 Yba.sizeOf36 ⟨q, 1, none⟩ rfl (tsL x y tag) l1.out q2.out ?_)
  refine (ts13 B _ x y tag hx hy HT.out v2 _ w2 HO2.out hB2 (by omega)).mono ?_
  rintro e w3 ⟨v3, rfl, ho3, ha3⟩
  have HO3 := Hid.mk ho3
  have HA3 := Hid.mk (HA2.out.trans ha3)
  have q3 := Hid.mk (HR.out _ _ HA3.out).non
  have hB3 := (HV.out _ _ HA3.out).2.2.2
  clear ho3 ha3 HO2 HA2 q2
  go_wp2_with (first | (refine app rfl (.tmp 18) (.tmp 22) rfl B _ _ _ rfl HO3.out _ 32 32 (Lib.byteCells non) rfl (by rw [Lib.byteCells_length]; exact HN.out) (by intro h; cases h) (by intro ad had; cases had; exact q3.out) (byteCells_one _) (by omega) hB3 ?_; intro v4 w4 ho4 ha4; have HO4 := Hid.mk ho4; have HA4 := Hid.mk (HA3.out.trans ha4); have q4 := (HR.out _ _ HA4.out).vec; have hB4 := (HV.out _ _ HA4.out).2.2.2; clear ho4 ha4 HO3 HA3 q3))
  refine (dig14 B _ vm vc vo vds hvm v4 _ w4 HO4.out hB4 (by omega) (HV.out _ _ HA4.out).1).mono ?_
  rintro e w5 ⟨v5, rfl, ho5, ha5⟩
  have HO5 := Hid.mk ho5
  have HA5 := Hid.mk (HA4.out.trans ha5)
  have q5 := (HR.out _ _ HA5.out).cl
  have q5' := (HR.out _ _ HA5.out).hs
  have hB5 := (HV.out _ _ HA5.out).2.2.2
  have hU2 := HU.out vm
  clear ho5 ha5 HO4 HA4 q4
  go_wp2_with fail
  refine (ck15 B _ cl hm hc ho hds hcl hhm v5 _ w5 HO5.out hB5 (by omega) (HV.out _ _ HA5.out).2.1).mono ?_
  rintro e w6 ⟨v6, rfl, ho6, ha6⟩
  have HO6 := Hid.mk ho6
  have HA6 := Hid.mk (HA5.out.trans ha6)
  have q6 := Hid.mk (HR.out _ _ HA6.out).done
  have hB6 := (HV.out _ _ HA6.out).2.2.2
  have hU3 := HU.out hm
  clear ho6 ha6 HO5 HA5 q5 q5'
  go_wp2_with (refine load_agg rfl (.tmp 39) 47 rfl Yba.isAgg47 99 Yba.sizeOf47 ⟨q, 70, none⟩ rfl (candL dx dy dtag dnon ddig (.slice dob dm dc)) l2.out q6.out ?_)
  refine (HOPT.out _ (by omega) v6 _ w6 HO6.out hB6 (HV.out _ _ HA6.out).2.2.1).mono ?_
  rintro e w7 ⟨v7, rfl, ho7, ha7⟩
  have HO7 := Hid.mk ho7
  have HA7 := Hid.mk (HA6.out.trans ha7)
  have q7 := (HR.out _ _ HA7.out).frag
  have hB7 := (HV.out _ _ HA7.out).2.2.2
  have hU4 := HOL.out
  clear ho7 ha7 HO6 HA6 q6
  go_wp2_with fail
  refine (len17 B _ fm fc fo hfm v7 _ w7 HO7.out hB7 (by omega)).mono ?_
  rintro e w8 ⟨v8, rfl, ho8, ha8⟩
  have HO8 := Hid.mk ho8
  have HA8 := Hid.mk (HA7.out.trans ha8)
  clear ho8 ha8 HO7 HA7 q7
  go_wp2_with fail
  go_ret
  exact ⟨_, _, rfl, by simpa [bodyL, List.append_assoc] using HO8.out, HA8.out⟩
end Go.Proofs.Ybulkoxq
