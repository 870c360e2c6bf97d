import Derived.Test.YbulkoxqWalks19
import Derived.Laws.BitsAllLaws
set_option linter.unusedVariables false
set_option linter.unusedSimpArgs false
namespace Go.Proofs.Ybulkoxq
open Go.RowKit

def IsByte (u : Value) : Prop := ∃ z : Int, u = .int .u8 z ∧ 0 ≤ z ∧ z < 256

theorem isByte_cells (l : List UInt8) : ∀ u ∈ Lib.byteCells l, IsByte u := by
  intro u hu
  obtain ⟨b, _, rfl⟩ := List.mem_map.1 hu
  exact ⟨_, rfl, by omega, by have := b.toNat_lt; omega⟩

theorem isByte_uvl (n : Nat) (hn : n ≤ 1024) : ∀ u ∈ uvl n, IsByte u := by
  intro u hu
  unfold uvl at hu
  split at hu
  · simp at hu
    exact ⟨_, hu, by omega, by omega⟩
  · simp at hu
    rcases hu with rfl | rfl
    · refine ⟨_, rfl, ?_⟩
      have h0 : 0 ≤ (n : Int) % 256 := by omega
      have h1 : (n : Int) % 256 < 256 := by omega
      rw [u8_or _ _ h0 h1 (by omega) (by omega)]
      have h2 : ((n : Int) % 256).toNat ||| (128 : Int).toNat < 2 ^ 8 := Nat.or_lt_two_pow (by omega) (by decide)
      omega
    · exact ⟨_, rfl, by omega, by omega⟩

theorem isByte_bel (x : Nat) (hx : x < 18446744073709551616) : ∀ u ∈ bel x, IsByte u := by
  intro u hu
  simp only [bel, List.mem_cons, List.not_mem_nil, or_false] at hu
  rcases hu with rfl | rfl | rfl | rfl | rfl | rfl | rfl | rfl
  all_goals exact ⟨_, rfl, by omega, by omega⟩

theorem isByte_opt (x y m : Nat) (tag non dig ds : List UInt8) (hx : x < 18446744073709551616) (hy : y < 18446744073709551616) (hm : m ≤ 1024) : ∀ u ∈ optL x y tag non dig m ds, IsByte u := by
  intro u hu
  unfold optL at hu
  split at hu
  · simp at hu
    exact ⟨_, hu, by omega, by omega⟩
  · simp only [List.mem_cons, List.mem_append] at hu
    rcases hu with rfl | ((((h | h) | h) | h) | h) | h | h
    · exact ⟨_, rfl, by omega, by omega⟩
    · exact isByte_bel x hx u h
    · exact isByte_bel y hy u h
    · exact isByte_cells _ u h
    · exact isByte_cells _ u h
    · exact isByte_cells _ u h
    · exact isByte_uvl m hm u h
    · exact isByte_cells _ u h

theorem isByte_body (key : ByteArray) (x y : Nat) (tag non : List UInt8) (vm : Nat) (vds : List UInt8) (cl hm : Nat) (hds : List UInt8) (opt : List Value) (fm : Nat) (hk : key.size ≤ 1024) (hx : x < 18446744073709551616) (hy : y < 18446744073709551616) (hvm : vm ≤ 1024) (hcl : cl < 18446744073709551616) (hhm : hm ≤ 1024) (hfm : fm ≤ 1024) (ho : ∀ u ∈ opt, IsByte u) :
    ∀ u ∈ bodyL key x y tag non vm vds cl hm hds opt fm, IsByte u := by
  intro u hu
  simp only [bodyL, List.mem_append] at hu
  rcases hu with h | h | h | h | h | h | h | h | h | h | h | h | h
  · exact isByte_uvl _ hk u h
  · exact isByte_cells _ u h
  · exact isByte_bel x hx u h
  · exact isByte_bel y hy u h
  · exact isByte_cells _ u h
  · exact isByte_cells _ u h
  · exact isByte_uvl vm hvm u h
  · exact isByte_cells _ u h
  · exact isByte_bel cl hcl u h
  · exact isByte_uvl hm hhm u h
  · exact isByte_cells _ u h
  · exact ho u h
  · exact isByte_uvl fm hfm u h
end Go.Proofs.Ybulkoxq
