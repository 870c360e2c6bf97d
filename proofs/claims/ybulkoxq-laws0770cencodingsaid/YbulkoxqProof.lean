/-
  The proof of 'Rows.LawS0770CEncodingSaid'.
-/
import Derived.Test.YbulkoxqRows
import Derived.WalkKit
import Derived.ProofKit
import Derived.OpenShut
import Derived.ShutString
import Derived.ChangeOld
import Derived.Below
import Derived.Test.YbulkoxqOpen
set_option linter.unusedVariables false
set_option linter.unusedSimpArgs false
namespace Go.Proofs.Ybulkoxq
open Go.ChangeShapes Go.WideShapes Go.ChangeAt Go.RowKit
namespace lawS0770CEncoding

theorem own : ownKnob Yba.prog.godebug = none := by kernel_rfl
theorem laidOut : laidOutB Yba.prog = true := by kernel_rfl

/-- The law, whatever the lengths. -/
theorem walk (po vo ho dob fo : Option Addr) (pn pc vm vc hm hc dm dc fm fc : Nat) (pds vds hds dds fds : List UInt8) (key : ByteArray) (x y cl dx dy : Nat) (tag non dtag dnon ddig : List UInt8) (don : Bool)
    (hx : x < 18446744073709551616) (hy : y < 18446744073709551616) (ht : tag.length = 32) (hn : non.length = 32) (hcl : cl < 18446744073709551616)
    (hdx : dx < 18446744073709551616) (hdy : dy < 18446744073709551616) (hdt : dtag.length = 32) (hdn : dnon.length = 32) (hdg : ddig.length = 32) (hvn : vo = none → vm = 0 ∧ vc = 0) (hhn : ho = none → hm = 0 ∧ hc = 0) (hdon : dob = none → dm = 0 ∧ dc = 0)
    (w : World) (hp : By w w.heap.size po pn pc pds) (hf : By w w.heap.size fo fm fc fds) (hv : Dg w w.heap.size vo vm vds) (hh : Dg w w.heap.size ho hm hds) (hd : Dg w w.heap.size dob dm dds) :
    Calls Yba.prog 3 #[.agg (argL (.slice po pn pc) key x y tag non (.slice vo vm vc) cl (.slice ho hm hc) don dx dy dtag dnon ddig (.slice dob dm dc) (.slice fo fm fc)).toArray] w fun e w' => e = .returned (.bool true) ∧ Below w.heap.size w w' := by
  have hl := argL_length (.slice po pn pc) key x y tag non (.slice vo vm vc) cl (.slice ho hm hc) don dx dy dtag dnon ddig (.slice dob dm dc) (.slice fo fm fc) ht hn hdt hdn hdg
  by_cases h0 : 1024 < pn
  · exact law_big _ hl w fun W => big_yes0 po vo ho dob fo pn pc vm vc hm hc dm dc fm fc key x y cl dx dy tag non dtag dnon ddig don ht hn hdt hdn hdg h0 W
  have h0 := Nat.le_of_not_lt h0
  by_cases h1 : 1024 < key.size
  · exact law_big _ hl w fun W => big_yes1 po vo ho dob fo pn pc vm vc hm hc dm dc fm fc key x y cl dx dy tag non dtag dnon ddig don ht hn hdt hdn hdg h0 h1 W
  have h1 := Nat.le_of_not_lt h1
  by_cases h2 : 1024 < vm
  · exact law_big _ hl w fun W => big_yes2 po vo ho dob fo pn pc vm vc hm hc dm dc fm fc key x y cl dx dy tag non dtag dnon ddig don ht hn hdt hdn hdg h0 h1 h2 W
  have h2 := Nat.le_of_not_lt h2
  by_cases h3 : 1024 < hm
  · exact law_big _ hl w fun W => big_yes3 po vo ho dob fo pn pc vm vc hm hc dm dc fm fc key x y cl dx dy tag non dtag dnon ddig don ht hn hdt hdn hdg h0 h1 h2 h3 W
  have h3 := Nat.le_of_not_lt h3
  by_cases h4 : 1024 < dm
  · exact law_big _ hl w fun W => big_yes4 po vo ho dob fo pn pc vm vc hm hc dm dc fm fc key x y cl dx dy tag non dtag dnon ddig don ht hn hdt hdn hdg h0 h1 h2 h3 h4 W
  have h4 := Nat.le_of_not_lt h4
  by_cases h5 : 1024 < fm
  · exact law_big _ hl w fun W => big_yes5 po vo ho dob fo pn pc vm vc hm hc dm dc fm fc key x y cl dx dy tag non dtag dnon ddig don ht hn hdt hdn hdg h0 h1 h2 h3 h4 h5 W
  have h5 := Nat.le_of_not_lt h5
  exact law_small po vo ho dob fo pn pc vm vc hm hc dm dc fm fc pds vds hds dds fds key x y cl dx dy tag non dtag dnon ddig don h0 h1 hx hy ht hn h2 h3 h5 hcl hdx hdy hdt hdn hdg h4 hvn hhn hdon w hp hf hv hh hd

/-- The argument's cells are the parts that the walk names. -/
theorem open27 {H : Type} {enc : TypeId × Value → H} {W : World} {fuel : Nat} {cs : List Value} {x : DataW H × List MemPlace} (h : DataW.trod enc Yba.prog W 0 (fun _ => true) true fuel 27 cs = some x) :
    Calls Yba.prog 3 #[.agg cs.toArray] W fun e w' => e = .returned (.bool true) ∧ Below W.heap.size W w' := by
  obtain ⟨xs, m, rfl, _, hl, hxs, hf⟩ := DataW.trod_struct Yba.underlying27 h
  rw [cells27] at hl
  have hxs : xs.length = 17 := hxs
  have g0 : DataW.trod enc Yba.prog W 0 (fun _ => true) true m 22 ((cs.drop 0).take 1) = some xs[0] := by
    have g := hf 0 _ rfl
    rw [List.getElem?_eq_getElem (by omega)] at g
    have e : (cs.drop 0).take 1 = (cs.drop 0).take (Yba.prog.cellsOf 22) := by rw [cells22]
    rw [e]
    exact g
  have g1 : DataW.trod enc Yba.prog W 0 (fun _ => true) true m 9 ((cs.drop 1).take 1) = some xs[1] := by
    have g := hf 1 _ rfl
    rw [List.getElem?_eq_getElem (by omega)] at g
    have e : (cs.drop 1).take 1 = (cs.drop 1).take (Yba.prog.cellsOf 9) := by rw [cells9]
    rw [e]
    exact g
  have g2 : DataW.trod enc Yba.prog W 0 (fun _ => true) true m 23 ((cs.drop 2).take 1) = some xs[2] := by
    have g := hf 2 _ rfl
    rw [List.getElem?_eq_getElem (by omega)] at g
    have e : (cs.drop 2).take 1 = (cs.drop 2).take (Yba.prog.cellsOf 23) := by rw [cells23]
    rw [e]
    exact g
  have g3 : DataW.trod enc Yba.prog W 0 (fun _ => true) true m 23 ((cs.drop 3).take 1) = some xs[3] := by
    have g := hf 3 _ rfl
    rw [List.getElem?_eq_getElem (by omega)] at g
    have e : (cs.drop 3).take 1 = (cs.drop 3).take (Yba.prog.cellsOf 23) := by rw [cells23]
    rw [e]
    exact g
  have g4 : DataW.trod enc Yba.prog W 0 (fun _ => true) true m 24 ((cs.drop 4).take 32) = some xs[4] := by
    have g := hf 4 _ rfl
    rw [List.getElem?_eq_getElem (by omega)] at g
    have e : (cs.drop 4).take 32 = (cs.drop 4).take (Yba.prog.cellsOf 24) := by rw [cells24]
    rw [e]
    exact g
  have g5 : DataW.trod enc Yba.prog W 0 (fun _ => true) true m 24 ((cs.drop 36).take 32) = some xs[5] := by
    have g := hf 5 _ rfl
    rw [List.getElem?_eq_getElem (by omega)] at g
    have e : (cs.drop 36).take 32 = (cs.drop 36).take (Yba.prog.cellsOf 24) := by rw [cells24]
    rw [e]
    exact g
  have g6 : DataW.trod enc Yba.prog W 0 (fun _ => true) true m 25 ((cs.drop 68).take 1) = some xs[6] := by
    have g := hf 6 _ rfl
    rw [List.getElem?_eq_getElem (by omega)] at g
    have e : (cs.drop 68).take 1 = (cs.drop 68).take (Yba.prog.cellsOf 25) := by rw [cells25]
    rw [e]
    exact g
  have g7 : DataW.trod enc Yba.prog W 0 (fun _ => true) true m 23 ((cs.drop 69).take 1) = some xs[7] := by
    have g := hf 7 _ rfl
    rw [List.getElem?_eq_getElem (by omega)] at g
    have e : (cs.drop 69).take 1 = (cs.drop 69).take (Yba.prog.cellsOf 23) := by rw [cells23]
    rw [e]
    exact g
  have g8 : DataW.trod enc Yba.prog W 0 (fun _ => true) true m 25 ((cs.drop 70).take 1) = some xs[8] := by
    have g := hf 8 _ rfl
    rw [List.getElem?_eq_getElem (by omega)] at g
    have e : (cs.drop 70).take 1 = (cs.drop 70).take (Yba.prog.cellsOf 25) := by rw [cells25]
    rw [e]
    exact g
  have g9 : DataW.trod enc Yba.prog W 0 (fun _ => true) true m 4 ((cs.drop 71).take 1) = some xs[9] := by
    have g := hf 9 _ rfl
    rw [List.getElem?_eq_getElem (by omega)] at g
    have e : (cs.drop 71).take 1 = (cs.drop 71).take (Yba.prog.cellsOf 4) := by rw [cells4]
    rw [e]
    exact g
  have g10 : DataW.trod enc Yba.prog W 0 (fun _ => true) true m 23 ((cs.drop 72).take 1) = some xs[10] := by
    have g := hf 10 _ rfl
    rw [List.getElem?_eq_getElem (by omega)] at g
    have e : (cs.drop 72).take 1 = (cs.drop 72).take (Yba.prog.cellsOf 23) := by rw [cells23]
    rw [e]
    exact g
  have g11 : DataW.trod enc Yba.prog W 0 (fun _ => true) true m 23 ((cs.drop 73).take 1) = some xs[11] := by
    have g := hf 11 _ rfl
    rw [List.getElem?_eq_getElem (by omega)] at g
    have e : (cs.drop 73).take 1 = (cs.drop 73).take (Yba.prog.cellsOf 23) := by rw [cells23]
    rw [e]
    exact g
  have g12 : DataW.trod enc Yba.prog W 0 (fun _ => true) true m 24 ((cs.drop 74).take 32) = some xs[12] := by
    have g := hf 12 _ rfl
    rw [List.getElem?_eq_getElem (by omega)] at g
    have e : (cs.drop 74).take 32 = (cs.drop 74).take (Yba.prog.cellsOf 24) := by rw [cells24]
    rw [e]
    exact g
  have g13 : DataW.trod enc Yba.prog W 0 (fun _ => true) true m 24 ((cs.drop 106).take 32) = some xs[13] := by
    have g := hf 13 _ rfl
    rw [List.getElem?_eq_getElem (by omega)] at g
    have e : (cs.drop 106).take 32 = (cs.drop 106).take (Yba.prog.cellsOf 24) := by rw [cells24]
    rw [e]
    exact g
  have g14 : DataW.trod enc Yba.prog W 0 (fun _ => true) true m 24 ((cs.drop 138).take 32) = some xs[14] := by
    have g := hf 14 _ rfl
    rw [List.getElem?_eq_getElem (by omega)] at g
    have e : (cs.drop 138).take 32 = (cs.drop 138).take (Yba.prog.cellsOf 24) := by rw [cells24]
    rw [e]
    exact g
  have g15 : DataW.trod enc Yba.prog W 0 (fun _ => true) true m 25 ((cs.drop 170).take 1) = some xs[15] := by
    have g := hf 15 _ rfl
    rw [List.getElem?_eq_getElem (by omega)] at g
    have e : (cs.drop 170).take 1 = (cs.drop 170).take (Yba.prog.cellsOf 25) := by rw [cells25]
    rw [e]
    exact g
  have g16 : DataW.trod enc Yba.prog W 0 (fun _ => true) true m 22 ((cs.drop 171).take 1) = some xs[16] := by
    have g := hf 16 _ rfl
    rw [List.getElem?_eq_getElem (by omega)] at g
    have e : (cs.drop 171).take 1 = (cs.drop 171).take (Yba.prog.cellsOf 22) := by rw [cells22]
    rw [e]
    exact g
  obtain ⟨po, pn, pc, pds, e0, hp⟩ := sl22 g0
  obtain ⟨key, e1, _, _⟩ := DataW.trod_string Yba.underlying9 g1
  obtain ⟨z2, e2, _, w2⟩ := DataW.trod_int Yba.underlying23 g2
  obtain ⟨x, rfl, hx⟩ := u64_of_wf w2
  obtain ⟨z3, e3, _, w3⟩ := DataW.trod_int Yba.underlying23 g3
  obtain ⟨y, rfl, hy⟩ := u64_of_wf w3
  obtain ⟨tag, e4, htag⟩ := arr24 g4
  obtain ⟨non, e5, hnon⟩ := arr24 g5
  obtain ⟨vo, vm, vc, vds, e6, hvn, hv⟩ := sl25 g6
  obtain ⟨z7, e7, _, w7⟩ := DataW.trod_int Yba.underlying23 g7
  obtain ⟨cl, rfl, hcl⟩ := u64_of_wf w7
  obtain ⟨ho, hm, hc, hds, e8, hhn, hh⟩ := sl25 g8
  obtain ⟨don, e9, _⟩ := DataW.trod_bool Yba.underlying4 g9
  obtain ⟨z10, e10, _, w10⟩ := DataW.trod_int Yba.underlying23 g10
  obtain ⟨dx, rfl, hdx⟩ := u64_of_wf w10
  obtain ⟨z11, e11, _, w11⟩ := DataW.trod_int Yba.underlying23 g11
  obtain ⟨dy, rfl, hdy⟩ := u64_of_wf w11
  obtain ⟨dtag, e12, hdtag⟩ := arr24 g12
  obtain ⟨dnon, e13, hdnon⟩ := arr24 g13
  obtain ⟨ddig, e14, hddig⟩ := arr24 g14
  obtain ⟨dob, dm, dc, dds, e15, hdon, hd⟩ := sl25 g15
  obtain ⟨fo, fm, fc, fds, e16, hf'⟩ := sl22 g16
  have hcs : cs = argL (.slice po pn pc) key x y tag non (.slice vo vm vc) cl (.slice ho hm hc) don dx dy dtag dnon ddig (.slice dob dm dc) (.slice fo fm fc) := by
    have q17 : cs.drop 172 = [] := List.drop_eq_nil_of_le (by omega)
    have q16 := piece cs 171 1
    rw [e16, q17] at q16
    have q15 := piece cs 170 1
    rw [e15, q16] at q15
    have q14 := piece cs 138 32
    rw [e14, q15] at q14
    have q13 := piece cs 106 32
    rw [e13, q14] at q13
    have q12 := piece cs 74 32
    rw [e12, q13] at q12
    have q11 := piece cs 73 1
    rw [e11, q12] at q11
    have q10 := piece cs 72 1
    rw [e10, q11] at q10
    have q9 := piece cs 71 1
    rw [e9, q10] at q9
    have q8 := piece cs 70 1
    rw [e8, q9] at q8
    have q7 := piece cs 69 1
    rw [e7, q8] at q7
    have q6 := piece cs 68 1
    rw [e6, q7] at q6
    have q5 := piece cs 36 32
    rw [e5, q6] at q5
    have q4 := piece cs 4 32
    rw [e4, q5] at q4
    have q3 := piece cs 3 1
    rw [e3, q4] at q3
    have q2 := piece cs 2 1
    rw [e2, q3] at q2
    have q1 := piece cs 1 1
    rw [e1, q2] at q1
    have q0 := piece cs 0 1
    rw [e0, q1] at q0
    rw [List.drop_zero] at q0
    rw [q0]
    simp only [argL, List.cons_append, List.nil_append, List.append_nil, List.singleton_append]
  rw [hcs]
  exact walk po vo ho dob fo pn pc vm vc hm hc dm dc fm fc pds vds hds dds fds key x y cl dx dy tag non dtag dnon ddig don hx hy htag hnon hcl hdx hdy hdtag hdnon hddig hvn hhn hdon W hp hf' hv hh hd

def zeroArg : Value := .agg (argL (.slice none 0 0) ByteArray.empty 0 0 (List.replicate 32 0) (List.replicate 32 0) (.slice none 0 0) 0 (.slice none 0 0) false 0 0 (List.replicate 32 0) (List.replicate 32 0) (List.replicate 32 0) (.slice none 0 0) (.slice none 0 0)).toArray

set_option maxRecDepth 100000 in
theorem lifted (os : Os) (started : os.Started) (H : Type) (enc : TypeId × Value → H) :
    ReturnsInHanded {} Yba.checked os 3 .any (Rows.lawS0770CEncodingSpec.pre6 enc Yba.prog Yba.f3 Rows.lawS0770CEncodingRow.domain false) (Rows.lawS0770CEncodingSpec.post enc Yba.prog Yba.f3 false true false false) := by
  refine returnsInHanded_of_change (C := Yba.checked) own started (by kernel_rfl) Yba.func3
    (ChangeSpec.witness6 (enc := enc) (C := Yba.checked) false ⟨#[], #[zeroArg], []⟩ 8 (by kernel_rfl) (by kernel_rfl) (by kernel_rfl) (by kernel_rfl)) ?_
  intro W base args ds gs before hval0 hW hcnd _
  have hval : ∀ (j : Nat) t v, Yba.f3.params[j]? = some t → args[j]? = some v → Value.okWide Yba.prog W .any base t v := hval0
  have hW' := hW
  obtain ⟨p, q, hA0, hV, rfl, hfz, hnd⟩ := hW
  have hA : DataW.TrodAll enc Yba.prog W 0 (fun _ => true) true Yba.f3.params.toList args.toList ds p := hA0
  rw [Yba.params3] at hA hval
  obtain ⟨v0, vs0, d0, ds0, p0, q0, hargs, rfl, rfl, h0, r0⟩ := trodAll_cons hA
  obtain ⟨rfl, rfl, rfl⟩ := trodAll_nil r0
  obtain rfl : args = #[v0] := by cases args; simp_all
  obtain ⟨rfl, rfl⟩ := trodVars_none hV
  obtain ⟨cs, rfl, hcs⟩ := okWide_struct Yba.underlying27 (hval 0 27 v0 rfl rfl)
  have k0 := h0
  have lt0 : ∀ x ∈ p0, x.block < W.heap.size := by obtain ⟨m, hm⟩ := k0; exact DataW.trod_lt m _ _ _ hm
  clear hA0 hval0
  have hwalk : Calls Yba.prog 3 #[.agg cs] W fun e w' => e = .returned (.bool true) ∧ Below W.heap.size W w' := by
    obtain ⟨fuel, hf⟩ := h0
    have hf : DataW.trod enc Yba.prog W 0 (fun _ => true) true fuel 27 cs.toList = some (d0, p0) := hf
    have := open27 hf
    rwa [Array.toArray_toList] at this
  refine hwalk.mono fun e W' ⟨he, bel⟩ => ?_
  subst he
  exact ⟨_, rfl, _, _, _, [], _, [], hW', trodAll_mk1 (shut_bool Yba.underlying4 _), (trodAll_cons_mk (Below.trod laidOut (by kernel_rfl) (of_decide_eq_true (by kernel_rfl)) k0 bel lt0) trodAll_mk0), rfl, bel.frame _, fun h => by cases h⟩

theorem over : Rows.lawS0770CEncodingRow.holds Yba.pinned (OpenSpec.ofChange Rows.lawS0770CEncodingSpec) :=
  OpenClaim.holds_of_wide 3 Yba.f3 rfl rfl rfl rfl rfl rfl rfl ⟨rfl, rfl, rfl, rfl, rfl⟩ rfl rfl rfl rfl rfl (by kernel_rfl) Yba.func3 (by kernel_rfl)
    (of_decide_eq_true (by kernel_rfl)) (by unfold Func.isWrapper; first | (rw [if_pos (by decide +kernel)]; kernel_rfl) | (rw [if_neg (by decide +kernel)]; exact ⟨rfl, rfl⟩))
    (fun os started H enc _ => lifted os started H enc)

/-- ████ THE STATEMENT ████ -/
theorem proved : Rows.LawS0770CEncodingSaid := over
end lawS0770CEncoding
end Go.Proofs.Ybulkoxq
