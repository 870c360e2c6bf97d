import Derived.Test.YbulkoksFmtFrame
import Derived.Test.YbulkoksFmtWalks7
set_option linter.unusedVariables false
namespace Go.Proofs.YbulkoksFmt
open Go.ChangeShapes Go.WideShapes Go.ChangeAt Go.RowKit Go.Kit
open Go.Extern.Stop Go.Stop Go.Extern

theorem raw_all (F : Interp) (w : World) (hF : F.answers w.tape) (x y z proc : Int) (a4 : Option Addr) (len4 cap4 : Nat) (z4 : List Int) (a5 : Option Addr) (len5 cap5 : Nat) (z5 : List Int)
    (w0 : (Lit.int .u8 x).wf = true) (w1 : (Lit.int .u8 y).wf = true) (w2 : (Lit.int .u8 z).wf = true) (w3 : (Lit.int .i64 proc).wf = true) (w4 : IsRow .i64 w a4 len4 cap4 z4) (w5 : IsRow .i64 w a5 len5 cap5 z5) :
    Calls Ybaf.prog 3 #[.int .u8 x, .int .u8 y, .int .u8 z, .int .i64 proc, .slice a4 len4 cap4, .slice a5 len5 cap5] w fun e w' => e = .returned (.bool true) ∧ Below w.heap.size w w' := by
  obtain ⟨x0, x1⟩ := u8_bounds w0
  obtain ⟨y0, y1⟩ := u8_bounds w1
  obtain ⟨q0, q1⟩ := u8_bounds w2
  obtain ⟨n, hn⟩ : ∃ n : Nat, x % 8 + 1 = (n : Int) := ⟨(x % 8 + 1).toNat, by omega⟩
  by_cases hp : proc < 0 ∨ (n : Int) ≤ proc
  · exact raw_no F x y z proc n _ _ a4 a5 len4 cap4 len5 cap5 w hF x0 x1 y0 y1 q0 q1 hn rfl rfl
      (fun W c lb nb cp hk _ hFW => check_proc F c lb nb cp n (letters n) 1 1 _ _ proc _ _ rfl rfl W hFW hk hp) (fun W _ => valid_proc n _ _ proc _ _ W hp)
  by_cases hl : len4 ≠ n ∨ len5 ≠ n
  · exact raw_no F x y z proc n _ _ a4 a5 len4 cap4 len5 cap5 w hF x0 x1 y0 y1 q0 q1 hn rfl rfl
      (fun W c lb nb cp hk _ hFW => check_len F c lb nb cp n (letters n) 1 1 _ _ proc _ _ len4 cap4 len5 cap5 W hFW hk (by omega) (by omega) hl) (fun W _ => valid_len n _ _ proc a4 a5 len4 cap4 len5 cap5 W (by omega) (by omega) hl)
  obtain rfl : len4 = n := by omega
  obtain rfl : len5 = len4 := by omega
  have c4 : 0 < cap4 := by rcases w4 with ⟨_, h, _⟩ | ⟨_, _, h, _⟩ <;> omega
  have c5 : 0 < cap5 := by rcases w5 with ⟨_, h, _⟩ | ⟨_, _, h, _⟩ <;> omega
  obtain ⟨g1, o1, rfl, hl1, hc1⟩ := row_plain w4 c4
  obtain ⟨g2, o2, rfl, hl2, hc2⟩ := row_plain w5 c5
  rcases agree F proc len5 (y % 16 + 1) (z % 16 + 1) g1 o1 cap4 g2 o2 cap5 z4 z5 w (by omega) (by omega) (by omega) (fun j hj => hc1 j (by omega)) (fun j hj => hc2 j (by omega)) with ⟨ha, hb⟩ | ⟨ha, hb⟩
  · exact raw_yes F x y z proc len5 _ _ _ _ len5 cap4 len5 cap5 w hF x0 x1 y0 y1 q0 q1 hn rfl rfl ha hb
  · exact raw_no F x y z proc len5 _ _ _ _ len5 cap4 len5 cap5 w hF x0 x1 y0 y1 q0 q1 hn rfl rfl ha hb

set_option maxRecDepth 100000 in
theorem raw_lifted (os : Os) (started : os.Started) (H : Type) (enc : TypeId × Value → H) :
    ReturnsInTold none {} Ybaf.checked os 3 .any Input.okWide ((OpenSpec.ofChange Rows.lawS0746BRawSpec).preRow enc Ybaf.prog Ybaf.f3 [] false []) (fun F => ((OpenSpec.ofChange Rows.lawS0746BRawSpec).at F).post enc Ybaf.prog Ybaf.f3 false true false false) (aloneAtReturn Ybaf.prog) nothingAlways := by
  refine returnsInTold_of_row (C := Ybaf.checked) (s := OpenSpec.ofChange Rows.lawS0746BRawSpec) (by kernel_rfl) own started (by kernel_rfl) Ybaf.func3
    (OpenSpec.witness_stopped (enc := enc) (C := Ybaf.checked) false ⟨#[], #[.int .u8 0, .int .u8 0, .int .u8 0, .int .i64 0, .slice none 0 0, .slice none 0 0], []⟩ 8 (by kernel_rfl) (by kernel_rfl) (by kernel_rfl) (by kernel_rfl)) ?_
  intro F W base args ds gs before _ hF hval0 hW _ _ hsz _ _
  have hval : ∀ (j : Nat) t v, Ybaf.f3.params[j]? = some t → args[j]? = some v → Value.okWide Ybaf.prog W .any base t v := hval0
  have hW' := hW
  obtain ⟨p, q, hA0, hV, rfl, hfz, hnd⟩ := hW
  have hA : DataW.TrodAll enc Ybaf.prog W 0 (fun _ => true) true Ybaf.f3.params.toList args.toList ds p := hA0
  rw [Ybaf.params3] at hA hval
  obtain ⟨v0, vs0, d0, ds0, p0, q0, hargs, rfl, rfl, h0, r0⟩ := trodAll_cons hA
  obtain ⟨v1, vs1, d1, ds1, p1, q1, rfl, rfl, rfl, h1, r1⟩ := trodAll_cons r0
  obtain ⟨v2, vs2, d2, ds2, p2, q2, rfl, rfl, rfl, h2, r2⟩ := trodAll_cons r1
  obtain ⟨v3, vs3, d3, ds3, p3, q3, rfl, rfl, rfl, h3, r3⟩ := trodAll_cons r2
  obtain ⟨v4, vs4, d4, ds4, p4, q4, rfl, rfl, rfl, h4, r4⟩ := trodAll_cons r3
  obtain ⟨v5, vs5, d5, ds5, p5, q5, rfl, rfl, rfl, h5, r5⟩ := trodAll_cons r4
  obtain ⟨rfl, rfl, rfl⟩ := trodAll_nil r5
  obtain rfl : args = #[v0, v1, v2, v3, v4, v5] := by cases args; simp_all
  obtain ⟨rfl, rfl⟩ := trodVars_none hV
  obtain ⟨x0, rfl, rfl, rfl, w0⟩ := open_int Ybaf.underlying5 (hval 0 5 v0 rfl rfl) h0
  obtain ⟨x1, rfl, rfl, rfl, w1⟩ := open_int Ybaf.underlying5 (hval 1 5 v1 rfl rfl) h1
  obtain ⟨x2, rfl, rfl, rfl, w2⟩ := open_int Ybaf.underlying5 (hval 2 5 v2 rfl rfl) h2
  obtain ⟨x3, rfl, rfl, rfl, w3⟩ := open_int Ybaf.underlying3 (hval 3 3 v3 rfl rfl) h3
  obtain ⟨a4, len4, cap4, rfl⟩ := okWide_slice Ybaf.underlying22 (hval 4 22 v4 rfl rfl)
  obtain ⟨a5, len5, cap5, rfl⟩ := okWide_slice Ybaf.underlying22 (hval 5 22 v5 rfl rfl)
  have lt4 : ∀ x ∈ p4, x.block < W.heap.size := by obtain ⟨m, hm⟩ := h4; exact DataW.trod_lt m _ _ _ hm
  obtain ⟨z4, w4⟩ := isRow_ints h4
  have lt5 : ∀ x ∈ p5, x.block < W.heap.size := by obtain ⟨m, hm⟩ := h5; exact DataW.trod_lt m _ _ _ hm
  obtain ⟨z5, w5⟩ := isRow_ints h5
  clear hA0 hval0
  refine (raw_all F.told W hF x0 x1 x2 x3 a4 len4 cap4 z4 a5 len5 cap5 z5 w0 w1 w2 w3 w4 w5).mono fun e W' ⟨he, bel⟩ => ?_
  subst he
  exact ⟨_, rfl, _, _, _, [], _, [], hW', trodAll_mk1 (shut_bool Ybaf.underlying4 _), (trodAll_cons_mk (shut_int Ybaf.underlying5 w0) (trodAll_cons_mk (shut_int Ybaf.underlying5 w1) (trodAll_cons_mk (shut_int Ybaf.underlying5 w2) (trodAll_cons_mk (shut_int Ybaf.underlying3 w3) (trodAll_cons_mk (Below.trod laidOut (by kernel_rfl) (of_decide_eq_true (by kernel_rfl)) h4 bel lt4) (trodAll_cons_mk (Below.trod laidOut (by kernel_rfl) (of_decide_eq_true (by kernel_rfl)) h5 bel lt5) trodAll_mk0)))))), rfl, bel.frame _, fun h => by cases h⟩

theorem raw_proved : Rows.LawS0746BRawToldSaid :=
  Claim7.holds_of_told_any 3 Ybaf.f3 _ [] [] _ _ _ (by kernel_rfl) rfl rfl rfl laidOut (by kernel_rfl) rfl ⟨rfl, rfl, rfl, rfl, rfl, rfl, rfl⟩ rfl rfl (by kernel_rfl) (by kernel_rfl) Ybaf.func3 (by kernel_rfl)
    (of_decide_eq_true (by kernel_rfl)) (of_decide_eq_true (by kernel_rfl)) (by kernel_rfl) rfl stopKnobs.symm (by kernel_rfl)
    (by kernel_rfl) (by kernel_rfl) (by kernel_rfl) (by kernel_rfl) (by kernel_rfl) (by kernel_rfl) (by kernel_rfl) (by kernel_rfl) (by kernel_rfl) rfl (by kernel_rfl) rfl rfl
    rfl rfl
    rfl (by kernel_rfl) (by kernel_rfl) (by kernel_rfl) (by decide) (by kernel_rfl)
    (OpenClaim.moreEntering_of (by kernel_rfl) (by kernel_rfl) (by kernel_rfl) (by kernel_rfl) (by kernel_rfl) (by kernel_rfl) (by kernel_rfl) (by kernel_rfl) (by kernel_rfl) (by kernel_rfl))
    ⟨_, WideRow.started_initial, quiet _⟩
    (fun os started _ H enc _ => raw_lifted os started H enc)
end Go.Proofs.YbulkoksFmt
