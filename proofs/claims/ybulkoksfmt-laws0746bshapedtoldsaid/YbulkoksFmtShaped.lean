import Derived.Test.YbulkoksFmtFrame
import Derived.Test.YbulkoksFmtWalks8
set_option linter.unusedVariables false
namespace Go.Proofs.YbulkoksFmt
open Go.ChangeShapes Go.WideShapes Go.ChangeAt Go.RowKit Go.Kit
open Go.Extern.Stop Go.Stop Go.Extern

theorem bytesAt_of {w : World} {a : Option Addr} {len cap : Nat} {zs : List Int} (h : IsRow .u8 w a len cap zs) : BytesAt w a len zs ∧ len ≤ maxLen := by
  have hlc : len ≤ cap ∧ cap ≤ maxLen := by
    rcases h with ⟨_, rfl, rfl, _⟩ | ⟨_, _, h1, h2, _⟩
    · exact ⟨Nat.le_refl _, by unfold maxLen; omega⟩
    · exact ⟨h1, h2⟩
  refine ⟨fun j hj => ?_, by omega⟩
  obtain ⟨g, o, rfl, hl, hc⟩ := row_plain h (by omega)
  have hwf : ∀ m ∈ zs, (Lit.int .u8 m).wf = true := by
    rcases h with ⟨h0, _⟩ | ⟨_, _, _, _, _, _, hw⟩
    · cases h0
    · exact hw
  have hjz : j < zs.length := by omega
  have hb := u8_bounds (hwf zs[j] (List.getElem_mem hjz))
  have e : zs.getD j 0 = zs[j] := by simp [List.getD, hjz]
  exact ⟨g, o, rfl, hc j hjz, by rw [e]; exact hb.1, by rw [e]; exact hb.2⟩

theorem shaped_all (F : Interp) (w : World) (hF : F.answers w.tape) (x y z q : Int) (a4 : Option Addr) (len4 cap4 : Nat) (z4 : List Int) (a5 : Option Addr) (len5 cap5 : Nat) (z5 : List Int)
    (w0 : (Lit.int .u8 x).wf = true) (w1 : (Lit.int .u8 y).wf = true) (w2 : (Lit.int .u8 z).wf = true) (w3 : (Lit.int .u8 q).wf = true) (w4 : IsRow .u8 w a4 len4 cap4 z4) (w5 : IsRow .u8 w a5 len5 cap5 z5) :
    Calls Ybaf.prog 4 #[.int .u8 x, .int .u8 y, .int .u8 z, .int .u8 q, .slice a4 len4 cap4, .slice a5 len5 cap5] w fun e w' => e = .returned (.bool true) ∧ Below w.heap.size w w' := by
  obtain ⟨x0, x1⟩ := u8_bounds w0
  obtain ⟨y0, y1⟩ := u8_bounds w1
  obtain ⟨p0, p1⟩ := u8_bounds w2
  obtain ⟨q0, q1⟩ := u8_bounds w3
  obtain ⟨n, hn⟩ : ∃ n : Nat, x % 8 + 1 = (n : Int) := ⟨(x % 8 + 1).toNat, by omega⟩
  obtain ⟨b4, m4⟩ := bytesAt_of w4
  obtain ⟨b5, m5⟩ := bytesAt_of w5
  exact shaped_walk F x y z q n _ _ _ a4 a5 len4 cap4 len5 cap5 z4 z5 w hF x0 x1 y0 y1 p0 p1 q0 q1 hn rfl rfl rfl b4 b5 m4 m5

set_option maxRecDepth 100000 in
theorem shaped_lifted (os : Os) (started : os.Started) (H : Type) (enc : TypeId × Value → H) :
    ReturnsInTold none {} Ybaf.checked os 4 .any Input.okWide ((OpenSpec.ofChange Rows.lawS0746BShapedSpec).preRow enc Ybaf.prog Ybaf.f4 [] false []) (fun F => ((OpenSpec.ofChange Rows.lawS0746BShapedSpec).at F).post enc Ybaf.prog Ybaf.f4 false true false false) (aloneAtReturn Ybaf.prog) nothingAlways := by
  refine returnsInTold_of_row (C := Ybaf.checked) (s := OpenSpec.ofChange Rows.lawS0746BShapedSpec) (by kernel_rfl) own started (by kernel_rfl) Ybaf.func4
    (OpenSpec.witness_stopped (enc := enc) (C := Ybaf.checked) false ⟨#[], #[.int .u8 0, .int .u8 0, .int .u8 0, .int .u8 0, .slice none 0 0, .slice none 0 0], []⟩ 8 (by kernel_rfl) (by kernel_rfl) (by kernel_rfl) (by kernel_rfl)) ?_
  intro F W base args ds gs before _ hF hval0 hW _ _ hsz _ _
  have hval : ∀ (j : Nat) t v, Ybaf.f4.params[j]? = some t → args[j]? = some v → Value.okWide Ybaf.prog W .any base t v := hval0
  have hW' := hW
  obtain ⟨p, q, hA0, hV, rfl, hfz, hnd⟩ := hW
  have hA : DataW.TrodAll enc Ybaf.prog W 0 (fun _ => true) true Ybaf.f4.params.toList args.toList ds p := hA0
  rw [Ybaf.params4] at hA hval
  obtain ⟨v0, vs0, d0, ds0, p0, q0, hargs, rfl, rfl, h0, r0⟩ := trodAll_cons hA
  obtain ⟨v1, vs1, d1, ds1, p1, q1, rfl, rfl, rfl, h1, r1⟩ := trodAll_cons r0
  obtain ⟨v2, vs2, d2, ds2, p2, q2, rfl, rfl, rfl, h2, r2⟩ := trodAll_cons r1
  obtain ⟨v3, vs3, d3, ds3, p3, q3, rfl, rfl, rfl, h3, r3⟩ := trodAll_cons r2
  obtain ⟨v4, vs4, d4, ds4, p4, q4, rfl, rfl, rfl, h4, r4⟩ := trodAll_cons r3
  obtain ⟨v5, vs5, d5, ds5, p5, q5, rfl, rfl, rfl, h5, r5⟩ := trodAll_cons r4
  obtain ⟨rfl, rfl, rfl⟩ := trodAll_nil r5
  obtain rfl : args = #[v0, v1, v2, v3, v4, v5] := by cases args; simp_all
  obtain ⟨rfl, rfl⟩ := trodVars_none hV
  obtain ⟨x0, rfl, rfl, rfl, w0⟩ := open_int Ybaf.underlying5 (hval 0 5 v0 rfl rfl) h0
  obtain ⟨x1, rfl, rfl, rfl, w1⟩ := open_int Ybaf.underlying5 (hval 1 5 v1 rfl rfl) h1
  obtain ⟨x2, rfl, rfl, rfl, w2⟩ := open_int Ybaf.underlying5 (hval 2 5 v2 rfl rfl) h2
  obtain ⟨x3, rfl, rfl, rfl, w3⟩ := open_int Ybaf.underlying5 (hval 3 5 v3 rfl rfl) h3
  obtain ⟨a4, len4, cap4, rfl⟩ := okWide_slice Ybaf.underlying33 (hval 4 33 v4 rfl rfl)
  obtain ⟨a5, len5, cap5, rfl⟩ := okWide_slice Ybaf.underlying33 (hval 5 33 v5 rfl rfl)
  have lt4 : ∀ x ∈ p4, x.block < W.heap.size := by obtain ⟨m, hm⟩ := h4; exact DataW.trod_lt m _ _ _ hm
  obtain ⟨z4, w4⟩ := isRow_bytes h4
  have lt5 : ∀ x ∈ p5, x.block < W.heap.size := by obtain ⟨m, hm⟩ := h5; exact DataW.trod_lt m _ _ _ hm
  obtain ⟨z5, w5⟩ := isRow_bytes h5
  clear hA0 hval0
  refine (shaped_all F.told W hF x0 x1 x2 x3 a4 len4 cap4 z4 a5 len5 cap5 z5 w0 w1 w2 w3 w4 w5).mono fun e W' ⟨he, bel⟩ => ?_
  subst he
  exact ⟨_, rfl, _, _, _, [], _, [], hW', trodAll_mk1 (shut_bool Ybaf.underlying4 _), (trodAll_cons_mk (shut_int Ybaf.underlying5 w0) (trodAll_cons_mk (shut_int Ybaf.underlying5 w1) (trodAll_cons_mk (shut_int Ybaf.underlying5 w2) (trodAll_cons_mk (shut_int Ybaf.underlying5 w3) (trodAll_cons_mk (Below.trod laidOut (by kernel_rfl) (of_decide_eq_true (by kernel_rfl)) h4 bel lt4) (trodAll_cons_mk (Below.trod laidOut (by kernel_rfl) (of_decide_eq_true (by kernel_rfl)) h5 bel lt5) trodAll_mk0)))))), rfl, bel.frame _, fun h => by cases h⟩

theorem shaped_proved : Rows.LawS0746BShapedToldSaid :=
  Claim7.holds_of_told_any 4 Ybaf.f4 _ [] [] _ _ _ (by kernel_rfl) rfl rfl rfl laidOut (by kernel_rfl) rfl ⟨rfl, rfl, rfl, rfl, rfl, rfl, rfl⟩ rfl rfl (by kernel_rfl) (by kernel_rfl) Ybaf.func4 (by kernel_rfl)
    (of_decide_eq_true (by kernel_rfl)) (of_decide_eq_true (by kernel_rfl)) (by kernel_rfl) rfl stopKnobs.symm (by kernel_rfl)
    (by kernel_rfl) (by kernel_rfl) (by kernel_rfl) (by kernel_rfl) (by kernel_rfl) (by kernel_rfl) (by kernel_rfl) (by kernel_rfl) (by kernel_rfl) rfl (by kernel_rfl) rfl rfl
    rfl rfl
    rfl (by kernel_rfl) (by kernel_rfl) (by kernel_rfl) (by decide) (by kernel_rfl)
    (OpenClaim.moreEntering_of (by kernel_rfl) (by kernel_rfl) (by kernel_rfl) (by kernel_rfl) (by kernel_rfl) (by kernel_rfl) (by kernel_rfl) (by kernel_rfl) (by kernel_rfl) (by kernel_rfl))
    ⟨_, WideRow.started_initial, quiet _⟩
    (fun os started _ H enc _ => shaped_lifted os started H enc)
end Go.Proofs.YbulkoksFmt
