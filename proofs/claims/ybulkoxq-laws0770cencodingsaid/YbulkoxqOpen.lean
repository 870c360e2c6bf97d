import Derived.Test.YbulkoxqWalks21
import Derived.ProofKit
import Derived.OpenShut
import Derived.ShutString
import Derived.ChangeOld
set_option linter.unusedVariables false
set_option linter.unusedSimpArgs false
namespace Go.Proofs.Ybulkoxq
open Go.ChangeShapes Go.WideShapes Go.ChangeAt Go.RowKit

section
variable {H : Type} {enc : TypeId × Value → H} {W : World} {fuel : Nat} {cs : List Value} {x : DataW H × List MemPlace}

theorem cells5 : Yba.prog.cellsOf 5 = 1 := by kernel_rfl
theorem cells22 : Yba.prog.cellsOf 22 = 1 := by kernel_rfl
theorem cells9 : Yba.prog.cellsOf 9 = 1 := by kernel_rfl
theorem cells23 : Yba.prog.cellsOf 23 = 1 := by kernel_rfl
theorem cells24 : Yba.prog.cellsOf 24 = 32 := by kernel_rfl
theorem cells25 : Yba.prog.cellsOf 25 = 1 := by kernel_rfl
theorem cells4 : Yba.prog.cellsOf 4 = 1 := by kernel_rfl
theorem cells27 : Yba.prog.cellsOf 27 = 172 := by kernel_rfl

theorem u8_of_wf {z : Int} (h : (Lit.int .u8 z).wf = true) : 0 ≤ z ∧ z < 256 := by
  have h' : 0 ≤ z ∧ z ≤ 255 := by simpa [Lit.wf, IntKind.min, IntKind.max, IntKind.signed, IntKind.bits] using h
  omega
theorem u64_of_wf {z : Int} (h : (Lit.int .u64 z).wf = true) : ∃ n : Nat, z = n ∧ n < 18446744073709551616 := by
  have h' : 0 ≤ z ∧ z ≤ 18446744073709551615 := by simpa [Lit.wf, IntKind.min, IntKind.max, IntKind.signed, IntKind.bits] using h
  exact ⟨z.toNat, by omega, by omega⟩

/-- An array of 32 bytes. -/
theorem arr24 (h : DataW.trod enc Yba.prog W 0 (fun _ => true) true fuel 24 cs = some x) : ∃ bs : List UInt8, cs = Lib.byteCells bs ∧ bs.length = 32 := by
  obtain ⟨xs, m, rfl, _, hl, hx, hf⟩ := DataW.trod_array Yba.underlying24 h
  rw [cells24] at hl
  have hb : ∀ u ∈ cs, IsByte u := by
    intro u hu
    obtain ⟨i, hi, rfl⟩ := List.getElem_of_mem hu
    have h1 := hf i (by omega)
    rw [cells5, Nat.mul_one, List.getElem?_eq_getElem (by omega)] at h1
    obtain ⟨n, hn, _, hw⟩ := DataW.trod_int Yba.underlying5 h1
    have h2 : (cs.drop i).take 1 = [cs[i]] := by
      rw [List.drop_eq_getElem_cons hi, List.take_succ_cons, List.take_zero]
    rw [h2] at hn
    obtain ⟨b0, b1⟩ := u8_of_wf hw
    exact ⟨n, by simpa using hn, b0, b1⟩
  obtain ⟨bs, rfl⟩ := cells_bytes cs hb
  exact ⟨bs, rfl, by rw [← Lib.byteCells_length]; exact hl⟩

/-- A slice of bytes. -/
theorem sl22 (h : DataW.trod enc Yba.prog W 0 (fun _ => true) true fuel 22 cs = some x) : ∃ ao m c ds, cs = [.slice ao m c] ∧ By W W.heap.size ao m c ds := by
  rcases open_ints Yba.underlying22 Yba.underlying5 cells5 h with ⟨rfl, _⟩ | ⟨a, len, cap, zs, rfl, _, hl, hm, hz, _, hcell, hwz⟩
  · exact ⟨none, 0, 0, [], rfl, ⟨rfl, fun _ => ⟨rfl, rfl⟩, (fun ad h => by cases h)⟩⟩
  · simp at hz
    obtain ⟨bs, hbs⟩ := cells_bytes ((zs.take len).map (Value.int .u8)) (by
      intro u hu
      obtain ⟨z, hz', rfl⟩ := List.mem_map.1 hu
      obtain ⟨b0, b1⟩ := u8_of_wf (hwz z (List.mem_of_mem_take hz'))
      exact ⟨z, rfl, b0, b1⟩)
    have hbl : bs.length = len := by
      rw [← Lib.byteCells_length, ← hbs]
      simp
      omega
    refine ⟨some a, len, cap, bs, rfl, ⟨hbl, (fun h => by cases h), fun ad had j u hu => ?_⟩⟩
    cases had
    rw [← hbs] at hu
    have hj : j < len := by
      have := (List.getElem?_eq_some_iff.1 hu).1
      simp at this
      omega
    have h1 := hcell j (by omega)
    have hu' : u = .int .u8 (zs.getD j 0) := by
      simp [hj, show j < zs.length by omega] at hu
      simp [← hu, List.getD, show j < zs.length by omega]
    rw [hu']
    refine ⟨?_, h1⟩
    have := cell_lt h1
    rwa [add_block] at this

/-- A slice of arrays of 32 bytes. -/
theorem sl25 (h : DataW.trod enc Yba.prog W 0 (fun _ => true) true fuel 25 cs = some x) : ∃ ao m c ds, cs = [.slice ao m c] ∧ (ao = none → m = 0 ∧ c = 0) ∧ Dg W W.heap.size ao m ds := by
  rcases DataW.trod_slice Yba.underlying25 h with ⟨rfl, _⟩ | ⟨a, len, cap, elems, rest, n, rfl, rfl, _, _, hl, hm, hlen, hel, _, _⟩
  · exact ⟨none, 0, 0, [], rfl, fun _ => ⟨rfl, rfl⟩, ⟨rfl, fun h => absurd h (by omega)⟩⟩
  · have key : ∀ k, k ≤ len → ∃ ds : List UInt8, ds.length = k * 32 ∧ (0 < k → a.block < W.heap.size) ∧ ∀ j u, (Lib.byteCells ds)[j]? = some u → W.cell? (a.add j) = some u := by
      intro k
      induction k with
      | zero => exact fun _ => ⟨[], rfl, fun h => absurd h (by omega), fun j u hu => by simp [Lib.byteCells] at hu⟩
      | succ k ih =>
        intro hk
        obtain ⟨ds, h1, h2, h3⟩ := ih (by omega)
        have he := hel k (by omega)
        rw [List.getElem?_eq_getElem (by omega), cells24] at he
        obtain ⟨cs', hc', ht⟩ := Option.bind_eq_some_iff.1 he
        obtain ⟨bs, rfl, hb⟩ := arr24 ht
        obtain ⟨_, _, hcell⟩ := World.cells?_some hc'
        have hlt := World.cells?_block hc' (by omega)
        rw [add_block] at hlt
        refine ⟨ds ++ bs, by simp [h1, hb]; omega, fun _ => hlt, fun j u hu => ?_⟩
        rw [byteCells_append] at hu
        by_cases hj : j < (Lib.byteCells ds).length
        · rw [List.getElem?_append_left hj] at hu
          exact h3 j u hu
        · rw [List.getElem?_append_right (by omega)] at hu
          rw [Lib.byteCells_length, h1] at hj hu
          have hj2 : j - k * 32 < 32 := by
            have := (List.getElem?_eq_some_iff.1 hu).1
            rw [Lib.byteCells_length, hb] at this
            exact this
          have h4 := hcell (j - k * 32) hj2
          rw [add_add, hu] at h4
          rwa [show k * 32 + (j - k * 32) = j by omega] at h4
    obtain ⟨ds, h1, h2, h3⟩ := key len (Nat.le_refl _)
    exact ⟨some a, len, cap, ds, rfl, (fun h => by cases h), ⟨h1, fun hp => ⟨a, rfl, h2 hp, h3⟩⟩⟩

theorem piece (l : List Value) (a n : Nat) : l.drop a = (l.drop a).take n ++ l.drop (a + n) := by
  rw [← List.drop_drop, List.take_append_drop]

end
end Go.Proofs.Ybulkoxq
