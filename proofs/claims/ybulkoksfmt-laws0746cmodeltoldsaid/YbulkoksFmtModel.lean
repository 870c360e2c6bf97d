import Derived.Test.YbulkoksFmtFrame
import Derived.Test.YbulkoksFmtWalks12
import Derived.Test.YbulkoksFmtWalks13
set_option linter.unusedVariables false
namespace Go.Proofs.YbulkoksFmt
open Go.ChangeShapes Go.WideShapes Go.ChangeAt Go.RowKit Go.Kit
open Go.Extern.Stop Go.Stop Go.Extern

theorem src_of {w : World} {a : Option Addr} {len cap : Nat} {zs : List Int} (h : IsRow .i64 w a len cap zs) : Src w a len := by
  have hlc : len ≤ cap ∧ cap ≤ maxLen := by
    rcases h with ⟨_, rfl, rfl, _⟩ | ⟨_, _, h1, h2, _⟩
    · exact ⟨Nat.le_refl _, by unfold maxLen; omega⟩
    · exact ⟨h1, h2⟩
  refine ⟨by omega, fun j hj => ?_⟩
  obtain ⟨g, o, rfl, hl, hc⟩ := row_plain h (by omega)
  exact ⟨g, o, _, rfl, hc j (by omega)⟩

theorem model_all (F : Interp) (w : World) (hF : F.answers w.tape) (x0 x1 x2 x3 x4 x5 pe pf : Int) (a8 : Option Addr) (n8 k8 : Nat) (z8 : List Int) (a9 : Option Addr) (n9 k9 : Nat) (z9 : List Int) (a10 : Option Addr) (n10 k10 : Nat) (z10 : List Int) (a11 : Option Addr) (n11 k11 : Nat) (z11 : List Int)
    (w0 : (Lit.int .u8 x0).wf = true) (w1 : (Lit.int .u8 x1).wf = true) (w2 : (Lit.int .u8 x2).wf = true) (w3 : (Lit.int .u8 x3).wf = true) (w4 : (Lit.int .u8 x4).wf = true) (w5 : (Lit.int .u8 x5).wf = true) (w6 : (Lit.int .i64 pe).wf = true) (w7 : (Lit.int .i64 pf).wf = true)
    (w8 : IsRow .i64 w a8 n8 k8 z8) (w9 : IsRow .i64 w a9 n9 k9 z9) (w10 : IsRow .i64 w a10 n10 k10 z10) (w11 : IsRow .i64 w a11 n11 k11 z11) :
    Calls Ybaf.prog 5 #[.int .u8 x0, .int .u8 x1, .int .u8 x2, .int .u8 x3, .int .u8 x4, .int .u8 x5, .int .i64 pe, .int .i64 pf, .slice a8 n8 k8, .slice a9 n9 k9, .slice a10 n10 k10, .slice a11 n11 k11] w fun e w' => e = .returned (.bool true) ∧ Below w.heap.size w w' := by
  obtain ⟨b0, b0'⟩ := u8_bounds w0
  obtain ⟨b1, b1'⟩ := u8_bounds w1
  obtain ⟨b2, b2'⟩ := u8_bounds w2
  obtain ⟨b3, b3'⟩ := u8_bounds w3
  obtain ⟨b4, b4'⟩ := u8_bounds w4
  obtain ⟨b5, b5'⟩ := u8_bounds w5
  obtain ⟨n, hn⟩ : ∃ n : Nat, 1 + x0 % 4 = (n : Int) := ⟨(1 + x0 % 4).toNat, by omega⟩
  by_cases h1 : x5 % 4 = 1
  · exact model_one F x0 x1 x2 x3 x4 x5 pe pf n _ _ _ _ _ a8 a9 a10 a11 n8 k8 n9 k9 n10 k10 n11 k11 w hF b0 b0' b1 b1' b2 b2' b3 b3' b4 b4' b5 b5' hn rfl rfl rfl rfl rfl (src_of w8) (src_of w9) (src_of w10) (src_of w11) h1
  by_cases h2 : x5 % 4 = 2
  · exact model_two F x0 x1 x2 x3 x4 x5 pe pf n _ _ _ _ _ a8 a9 a10 a11 n8 k8 n9 k9 n10 k10 n11 k11 w hF b0 b0' b1 b1' b2 b2' b3 b3' b4 b4' b5 b5' hn rfl rfl rfl rfl rfl (src_of w8) (src_of w9) (src_of w10) (src_of w11) h2
  · exact model_plain F x0 x1 x2 x3 x4 x5 pe pf n _ _ _ _ _ a8 a9 a10 a11 n8 k8 n9 k9 n10 k10 n11 k11 w hF b0 b0' b1 b1' b2 b2' b3 b3' b4 b4' b5 b5' hn rfl rfl rfl rfl rfl (src_of w8) (src_of w9) (src_of w10) (src_of w11) (by simpa using h1) (by simpa using h2)

set_option maxRecDepth 100000 in
theorem model_lifted (os : Os) (started : os.Started) (H : Type) (enc : TypeId × Value → H) :
    ReturnsInTold none {} Ybaf.checked os 5 .any Input.okWide ((OpenSpec.ofChange Rows.lawS0746CModelSpec).preRow enc Ybaf.prog Ybaf.f5 [] false []) (fun F => ((OpenSpec.ofChange Rows.lawS0746CModelSpec).at F).post enc Ybaf.prog Ybaf.f5 false true false false) (aloneAtReturn Ybaf.prog) nothingAlways := by
  refine returnsInTold_of_row (C := Ybaf.checked) (s := OpenSpec.ofChange Rows.lawS0746CModelSpec) (by kernel_rfl) own started (by kernel_rfl) Ybaf.func5
    (OpenSpec.witness_stopped (enc := enc) (C := Ybaf.checked) false ⟨#[], #[.int .u8 0, .int .u8 0, .int .u8 0, .int .u8 0, .int .u8 0, .int .u8 0, .int .i64 0, .int .i64 0, .slice none 0 0, .slice none 0 0, .slice none 0 0, .slice none 0 0], []⟩ 8 (by kernel_rfl) (by kernel_rfl) (by kernel_rfl) (by kernel_rfl)) ?_
  intro F W base args ds gs before _ hF hval0 hW _ _ hsz _ _
  have hval : ∀ (j : Nat) t v, Ybaf.f5.params[j]? = some t → args[j]? = some v → Value.okWide Ybaf.prog W .any base t v := hval0
  have hW' := hW
  obtain ⟨p, q, hA0, hV, rfl, hfz, hnd⟩ := hW
  have hA : DataW.TrodAll enc Ybaf.prog W 0 (fun _ => true) true Ybaf.f5.params.toList args.toList ds p := hA0
  rw [Ybaf.params5] at hA hval
  obtain ⟨v0, vs0, d0, ds0, p0, q0, hargs, rfl, rfl, h0, r0⟩ := trodAll_cons hA
  obtain ⟨v1, vs1, d1, ds1, p1, q1, rfl, rfl, rfl, h1, r1⟩ := trodAll_cons r0
  obtain ⟨v2, vs2, d2, ds2, p2, q2, rfl, rfl, rfl, h2, r2⟩ := trodAll_cons r1
  obtain ⟨v3, vs3, d3, ds3, p3, q3, rfl, rfl, rfl, h3, r3⟩ := trodAll_cons r2
  obtain ⟨v4, vs4, d4, ds4, p4, q4, rfl, rfl, rfl, h4, r4⟩ := trodAll_cons r3
  obtain ⟨v5, vs5, d5, ds5, p5, q5, rfl, rfl, rfl, h5, r5⟩ := trodAll_cons r4
  obtain ⟨v6, vs6, d6, ds6, p6, q6, rfl, rfl, rfl, h6, r6⟩ := trodAll_cons r5
  obtain ⟨v7, vs7, d7, ds7, p7, q7, rfl, rfl, rfl, h7, r7⟩ := trodAll_cons r6
  obtain ⟨v8, vs8, d8, ds8, p8, q8, rfl, rfl, rfl, h8, r8⟩ := trodAll_cons r7
  obtain ⟨v9, vs9, d9, ds9, p9, q9, rfl, rfl, rfl, h9, r9⟩ := trodAll_cons r8
  obtain ⟨v10, vs10, d10, ds10, p10, q10, rfl, rfl, rfl, h10, r10⟩ := trodAll_cons r9
  obtain ⟨v11, vs11, d11, ds11, p11, q11, rfl, rfl, rfl, h11, r11⟩ := trodAll_cons r10
  obtain ⟨rfl, rfl, rfl⟩ := trodAll_nil r11
  obtain rfl : args = #[v0, v1, v2, v3, v4, v5, v6, v7, v8, v9, v10, v11] := by cases args; simp_all
  obtain ⟨rfl, rfl⟩ := trodVars_none hV
  obtain ⟨x0, rfl, rfl, rfl, w0⟩ := open_int Ybaf.underlying5 (hval 0 5 v0 rfl rfl) h0
  obtain ⟨x1, rfl, rfl, rfl, w1⟩ := open_int Ybaf.underlying5 (hval 1 5 v1 rfl rfl) h1
  obtain ⟨x2, rfl, rfl, rfl, w2⟩ := open_int Ybaf.underlying5 (hval 2 5 v2 rfl rfl) h2
  obtain ⟨x3, rfl, rfl, rfl, w3⟩ := open_int Ybaf.underlying5 (hval 3 5 v3 rfl rfl) h3
  obtain ⟨x4, rfl, rfl, rfl, w4⟩ := open_int Ybaf.underlying5 (hval 4 5 v4 rfl rfl) h4
  obtain ⟨x5, rfl, rfl, rfl, w5⟩ := open_int Ybaf.underlying5 (hval 5 5 v5 rfl rfl) h5
  obtain ⟨x6, rfl, rfl, rfl, w6⟩ := open_int Ybaf.underlying3 (hval 6 3 v6 rfl rfl) h6
  obtain ⟨x7, rfl, rfl, rfl, w7⟩ := open_int Ybaf.underlying3 (hval 7 3 v7 rfl rfl) h7
  obtain ⟨a8, len8, cap8, rfl⟩ := okWide_slice Ybaf.underlying22 (hval 8 22 v8 rfl rfl)
  obtain ⟨a9, len9, cap9, rfl⟩ := okWide_slice Ybaf.underlying22 (hval 9 22 v9 rfl rfl)
  obtain ⟨a10, len10, cap10, rfl⟩ := okWide_slice Ybaf.underlying22 (hval 10 22 v10 rfl rfl)
  obtain ⟨a11, len11, cap11, rfl⟩ := okWide_slice Ybaf.underlying22 (hval 11 22 v11 rfl rfl)
  have lt8 : ∀ x ∈ p8, x.block < W.heap.size := by obtain ⟨m, hm⟩ := h8; exact DataW.trod_lt m _ _ _ hm
  obtain ⟨z8, w8⟩ := isRow_ints h8
  have lt9 : ∀ x ∈ p9, x.block < W.heap.size := by obtain ⟨m, hm⟩ := h9; exact DataW.trod_lt m _ _ _ hm
  obtain ⟨z9, w9⟩ := isRow_ints h9
  have lt10 : ∀ x ∈ p10, x.block < W.heap.size := by obtain ⟨m, hm⟩ := h10; exact DataW.trod_lt m _ _ _ hm
  obtain ⟨z10, w10⟩ := isRow_ints h10
  have lt11 : ∀ x ∈ p11, x.block < W.heap.size := by obtain ⟨m, hm⟩ := h11; exact DataW.trod_lt m _ _ _ hm
  obtain ⟨z11, w11⟩ := isRow_ints h11
  clear hA0 hval0
  refine (model_all F.told W hF x0 x1 x2 x3 x4 x5 x6 x7 a8 len8 cap8 z8 a9 len9 cap9 z9 a10 len10 cap10 z10 a11 len11 cap11 z11 w0 w1 w2 w3 w4 w5 w6 w7 w8 w9 w10 w11).mono fun e W' ⟨he, bel⟩ => ?_
  subst he
  exact ⟨_, rfl, _, _, _, [], _, [], hW', trodAll_mk1 (shut_bool Ybaf.underlying4 _), (trodAll_cons_mk (shut_int Ybaf.underlying5 w0) (trodAll_cons_mk (shut_int Ybaf.underlying5 w1) (trodAll_cons_mk (shut_int Ybaf.underlying5 w2) (trodAll_cons_mk (shut_int Ybaf.underlying5 w3) (trodAll_cons_mk (shut_int Ybaf.underlying5 w4) (trodAll_cons_mk (shut_int Ybaf.underlying5 w5) (trodAll_cons_mk (shut_int Ybaf.underlying3 w6) (trodAll_cons_mk (shut_int Ybaf.underlying3 w7) (trodAll_cons_mk (Below.trod laidOut (by kernel_rfl) (of_decide_eq_true (by kernel_rfl)) h8 bel lt8) (trodAll_cons_mk (Below.trod laidOut (by kernel_rfl) (of_decide_eq_true (by kernel_rfl)) h9 bel lt9) (trodAll_cons_mk (Below.trod laidOut (by kernel_rfl) (of_decide_eq_true (by kernel_rfl)) h10 bel lt10) (trodAll_cons_mk (Below.trod laidOut (by kernel_rfl) (of_decide_eq_true (by kernel_rfl)) h11 bel lt11) trodAll_mk0)))))))))))), rfl, bel.frame _, fun h => by cases h⟩

theorem model_proved : Rows.LawS0746CModelToldSaid :=
  Claim7.holds_of_told_any 5 Ybaf.f5 _ [] [] _ _ _ (by kernel_rfl) rfl rfl rfl laidOut (by kernel_rfl) rfl ⟨rfl, rfl, rfl, rfl, rfl, rfl, rfl⟩ rfl rfl (by kernel_rfl) (by kernel_rfl) Ybaf.func5 (by kernel_rfl)
    (of_decide_eq_true (by kernel_rfl)) (of_decide_eq_true (by kernel_rfl)) (by kernel_rfl) rfl stopKnobs.symm (by kernel_rfl)
    (by kernel_rfl) (by kernel_rfl) (by kernel_rfl) (by kernel_rfl) (by kernel_rfl) (by kernel_rfl) (by kernel_rfl) (by kernel_rfl) (by kernel_rfl) rfl (by kernel_rfl) rfl rfl
    rfl rfl
    rfl (by kernel_rfl) (by kernel_rfl) (by kernel_rfl) (by decide) (by kernel_rfl)
    (OpenClaim.moreEntering_of (by kernel_rfl) (by kernel_rfl) (by kernel_rfl) (by kernel_rfl) (by kernel_rfl) (by kernel_rfl) (by kernel_rfl) (by kernel_rfl) (by kernel_rfl) (by kernel_rfl))
    ⟨_, WideRow.started_initial, quiet _⟩
    (fun os started _ H enc _ => model_lifted os started H enc)
end Go.Proofs.YbulkoksFmt
