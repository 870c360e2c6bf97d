import Derived.Test.YbulkojqFmtCards
import Derived.Test.YbulkojqFmtFrame
import Derived.Test.YbulkojqFmtWalks5
import Derived.ChangeSlices
import Derived.ChangeSame
import Derived.ChangeMaps5
import Derived.JoinedOf
import Derived.Carry
import Derived.Stop.JoinedAt
import Derived.Stop.Texts
import Derived.Stop.JoinedTold
import Derived.SizedLaws
import Derived.SevenToldRow
import Derived.OpenShut
import Derived.ShutString
import Derived.ChangeOld
set_option linter.unusedVariables false
namespace Go.Proofs.YbulkojqFmt
open Go.ChangeShapes Go.WideShapes Go.ChangeAt Go.RowKit Go.Kit
open Go.Extern.Stop Go.Stop Go.Extern

theorem own4 : ownKnob Ybaf.prog.godebug = none := by kernel_rfl
theorem laidOut4 : laidOutB Ybaf.pinned.checked.prog = true := by kernel_rfl
theorem stopKnobs4 : Ybaf.pinned.checked.prog.stopKnobs = [] := by kernel_rfl
theorem quiet4 (os : Os) : Stop.quiet Ybaf.pinned.checked.prog os := by
  intro k hk
  rw [stopKnobs4] at hk
  cases hk

theorem src8_of4 {w : World} {a : Option Addr} {len cap : Nat} {zs : List Int} (h : IsRow .u8 w a len cap zs) : Src8 w a len cap (bytesOf (zs.take len)) := by
  rcases h with ⟨rfl, rfl, rfl, rfl⟩ | ⟨x, rfl, hl, hm, hz, hcell, hwz⟩
  · exact ⟨rfl, Nat.le_refl _, by unfold maxLen; omega, fun _ => ⟨rfl, rfl⟩, fun ad had => by cases had⟩
  · refine ⟨by simp [bytesOf]; omega, hl, hm, (fun h => by cases h), ?_⟩
    intro ad had j u hu
    obtain rfl := Option.some.inj had
    have hj : j < len := by
      have := (List.getElem?_eq_some_iff.1 hu).1
      simp [Lib.byteCells, bytesOf] at this
      omega
    have hjz : j < zs.length := by omega
    rw [hcell j hjz]
    have hw := hwz zs[j] (List.getElem_mem hjz)
    have hb := byte_back hw
    have e : (Lib.byteCells (bytesOf (zs.take len)))[j]? = some (.int .u8 zs[j]) := by
      simp only [Lib.byteCells, bytesOf, List.getElem?_map, List.getElem?_take_of_lt hj, List.getElem?_eq_getElem hjz, Option.map_some]
      rw [hb]
    rw [e] at hu
    rw [← hu]
    simp [List.getD, hjz]

theorem raw_all (F : Interp) (w : World) (hF : F.answers w.tape) (a0 : Option Addr) (len0 cap0 : Nat) (z0 : List Int) (off seq : Int) (w0 : IsRow .u8 w a0 len0 cap0 z0)
    (wo : (Lit.int .u16 off).wf = true) (ws : (Lit.int .u64 seq).wf = true) :
    Calls Ybaf.prog 4 #[.slice a0 len0 cap0, .int .u16 off, .int .u64 seq] w fun e w' => e = .returned (.bool true) ∧ Below w.heap.size w w' := by
  by_cases h0 : 4096 < len0
  · exact (raw_big _ _ a0 len0 cap0 w h0).mono fun e w' ⟨h1, h2⟩ => ⟨h1, h2 ▸ Below.refl _ _⟩
  obtain ⟨o0, o1⟩ := u16_bounds wo
  obtain ⟨s0, s1⟩ := u64_bounds ws
  have hs := src8_of4 w0
  obtain ⟨o, ho⟩ : ∃ o : Nat, off % ((len0 : Int) + 1) = (o : Int) := ⟨(off % ((len0 : Int) + 1)).toNat, (Int.toNat_of_nonneg (Int.emod_nonneg _ (by omega))).symm⟩
  have hlt : off % ((len0 : Int) + 1) < (len0 : Int) + 1 := Int.emod_lt_of_pos _ (by omega)
  have hon : o ≤ len0 := by omega
  by_cases hne : cap0 = o
  · have hcap := hs.cap
    obtain rfl : cap0 = len0 := by omega
    subst hne
    exact raw_end F a0 _ off seq w hF (by omega) o0 o1 ho
  · rcases w0 with ⟨rfl, rfl, rfl, rfl⟩ | ⟨x, rfl, hl, hm, hz, hcell, hwz⟩
    · omega
    obtain ⟨g, b, spot⟩ := x
    have hcap : 0 < z0.length := by
      have := hs.cap
      omega
    have hspot : spot = none := by simpa [Addr.add] using World.cell?_spot (hcell 0 hcap)
    subst hspot
    have hc : ∀ j (hj : j < (bytesOf (z0.take len0)).length), w.cell? ⟨g, b + j, none⟩ = some (.int .u8 ((bytesOf (z0.take len0))[j]).toNat) := by
      intro j hj
      have := hs.cell ⟨g, b, none⟩ rfl j _ (byteCells_at _ j hj)
      rwa [Addr.add_lit] at this
    cases hd : dec ((bytesOf (z0.take len0)).drop o) with
    | none => exact raw_none F g b len0 cap0 o _ off seq w hF (by omega) hs.cap hs.max hon hne hs.len hc hd o0 o1 ho
    | some vk =>
      obtain ⟨v, k⟩ := vk
      by_cases hv : seq ≤ (v : Int)
      · exact raw_ge F g b len0 cap0 o v k _ off seq w hF (by omega) hs.cap hs.max hon hne hs.len hc hd o0 o1 ho hv
      · exact raw_lt g b len0 cap0 o v k _ off seq w (by omega) hs.cap hs.max hon hne hs.len hc hd o0 o1 ho (by omega) s1

set_option maxRecDepth 100000 in
theorem raw_lifted (os : Os) (started : os.Started) (H : Type) (enc : TypeId × Value → H) :
    ReturnsInTold none {} Ybaf.checked os 4 .any Input.okWide ((OpenSpec.ofChange Rows.lawS0744BRawSpec).preRow enc Ybaf.prog Ybaf.f4 [] false []) (fun F => ((OpenSpec.ofChange Rows.lawS0744BRawSpec).at F).post enc Ybaf.prog Ybaf.f4 false true false false) (aloneAtReturn Ybaf.prog) nothingAlways := by
  refine returnsInTold_of_row (C := Ybaf.checked) (s := OpenSpec.ofChange Rows.lawS0744BRawSpec) (by kernel_rfl) own4 started (by kernel_rfl) Ybaf.func4
    (OpenSpec.witness_stopped (enc := enc) (C := Ybaf.checked) false ⟨#[], #[.slice none 0 0, .int .u16 0, .int .u64 0], []⟩ 8 (by kernel_rfl) (by kernel_rfl) (by kernel_rfl) (by kernel_rfl)) ?_
  intro F W base args ds gs before _ hF hval0 hW _ _ hsz _ _
  have hval : ∀ (j : Nat) t v, Ybaf.f4.params[j]? = some t → args[j]? = some v → Value.okWide Ybaf.prog W .any base t v := hval0
  have hW' := hW
  obtain ⟨p, q, hA0, hV, rfl, hfz, hnd⟩ := hW
  have hA : DataW.TrodAll enc Ybaf.prog W 0 (fun _ => true) true Ybaf.f4.params.toList args.toList ds p := hA0
  rw [Ybaf.params4] at hA hval
  obtain ⟨v0, vs0, d0, ds0, p0, q0, hargs, rfl, rfl, h0, r0⟩ := trodAll_cons hA
  obtain ⟨v1, vs1, d1, ds1, p1, q1, rfl, rfl, rfl, h1, r1⟩ := trodAll_cons r0
  obtain ⟨v2, vs2, d2, ds2, p2, q2, rfl, rfl, rfl, h2, r2⟩ := trodAll_cons r1
  obtain ⟨rfl, rfl, rfl⟩ := trodAll_nil r2
  obtain rfl : args = #[v0, v1, v2] := by cases args; simp_all
  obtain ⟨rfl, rfl⟩ := trodVars_none hV
  obtain ⟨a0, len0, cap0, rfl⟩ := okWide_slice Ybaf.underlying22 (hval 0 22 v0 rfl rfl)
  obtain ⟨x1, rfl, rfl, rfl, w1⟩ := open_int Ybaf.underlying36 (hval 1 36 v1 rfl rfl) h1
  obtain ⟨x2, rfl, rfl, rfl, w2⟩ := open_int Ybaf.underlying23 (hval 2 23 v2 rfl rfl) h2
  have lt0 : ∀ x ∈ p0, x.block < W.heap.size := by obtain ⟨m, hm⟩ := h0; exact DataW.trod_lt m _ _ _ hm
  obtain ⟨z0, w0⟩ := isRow_of h0
  clear hA0 hval0
  refine (raw_all F.told W hF a0 len0 cap0 z0 x1 x2 w0 w1 w2).mono fun e W' ⟨he, bel⟩ => ?_
  subst he
  exact ⟨_, rfl, _, _, _, [], _, [], hW', trodAll_mk1 (shut_bool Ybaf.underlying4 _), (trodAll_cons_mk (Below.trod laidOut4 (by kernel_rfl) (of_decide_eq_true (by kernel_rfl)) h0 bel lt0) (trodAll_cons_mk (shut_int Ybaf.underlying36 w1) (trodAll_cons_mk (shut_int Ybaf.underlying23 w2) trodAll_mk0))), rfl, bel.frame _, fun h => by cases h⟩

theorem raw_proved : Rows.LawS0744BRawToldSaid :=
  Claim7.holds_of_told_any 4 Ybaf.f4 _ [] [] _ _ _ (by kernel_rfl) rfl rfl rfl laidOut4 (by kernel_rfl) rfl ⟨rfl, rfl, rfl, rfl, rfl, rfl, rfl⟩ rfl rfl (by kernel_rfl) (by kernel_rfl) Ybaf.func4 (by kernel_rfl)
    (of_decide_eq_true (by kernel_rfl)) (of_decide_eq_true (by kernel_rfl)) (by kernel_rfl) rfl stopKnobs4.symm (by kernel_rfl)
    (by kernel_rfl) (by kernel_rfl) (by kernel_rfl) (by kernel_rfl) (by kernel_rfl) (by kernel_rfl) (by kernel_rfl) (by kernel_rfl) (by kernel_rfl) rfl (by kernel_rfl) rfl rfl
    rfl rfl
    rfl (by kernel_rfl) (by kernel_rfl) (by kernel_rfl) (by decide) (by kernel_rfl)
    (OpenClaim.moreEntering_of (by kernel_rfl) (by kernel_rfl) (by kernel_rfl) (by kernel_rfl) (by kernel_rfl) (by kernel_rfl) (by kernel_rfl) (by kernel_rfl) (by kernel_rfl) (by kernel_rfl))
    ⟨_, WideRow.started_initial, quiet4 _⟩
    (fun os started _ H enc _ => raw_lifted os started H enc)
end Go.Proofs.YbulkojqFmt
