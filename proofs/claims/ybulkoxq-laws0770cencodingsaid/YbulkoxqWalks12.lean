import Derived.Test.YbulkoxqWalks6
set_option linter.unusedVariables false
set_option linter.unusedSimpArgs false
namespace Go.Proofs.Ybulkoxq
open Go.RowKit

theorem fill_step {place : Nat → Option (Nat × Nat)} {cells : Array Value} {i off : Nat} {v : Value} {rest : List (Nat × Value)} {p q r : List Value} (hp : place i = some (off, q.length)) (hc : cells.toList = p ++ (q ++ r)) (ho : p.length = off) (hv : v.cells.size = q.length) :
    Instr.fill place cells ((i, v) :: rest) = Instr.fill place (p ++ (v.cells.toList ++ r)).toArray rest := by
  have hs : cells.size = p.length + (q.length + r.length) := by
    rw [← Array.length_toList, hc]
    simp
  have key : (v.cells.zipIdx.foldl (fun cs (x : Value × Nat) => cs.setIfInBounds (off + x.2) x.1) cells) = (p ++ (v.cells.toList ++ r)).toArray := by
    have h0 : v.cells.zipIdx.foldl (fun cs (x : Value × Nat) => cs.setIfInBounds (off + x.2) x.1) cells = ((v.cells.toList.zipIdx 0).foldl (fun cs (x : Value × Nat) => cs.setIfInBounds (off + x.2) x.1) cells) := by
      rw [← Array.foldl_toList, Array.toList_zipIdx]
    obtain ⟨h1, h2⟩ := Go.Great.foldl_set off v.cells.toList 0 cells
    rw [h0]
    apply Array.ext_getElem?
    intro k
    rw [h2 k]
    have hvl : v.cells.toList.length = q.length := by simpa using hv
    have hk : cells[k]? = (p ++ (q ++ r))[k]? := by rw [← Array.getElem?_toList, hc]
    have hR : (p ++ (v.cells.toList ++ r)).toArray[k]? = (p ++ (v.cells.toList ++ r))[k]? := by simp
    rw [hR]
    by_cases hin : off + 0 ≤ k ∧ k < off + 0 + v.cells.toList.length ∧ k < cells.size
    · rw [if_pos hin, List.getElem?_append_right (by omega), List.getElem?_append_left (by omega)]
      congr 1
      omega
    · rw [if_neg hin, hk]
      by_cases hlt : k < p.length
      · rw [List.getElem?_append_left hlt, List.getElem?_append_left hlt]
      · rw [List.getElem?_append_right (by omega), List.getElem?_append_right (by omega), List.getElem?_append_right (by omega), List.getElem?_append_right (by omega), hvl]
  rw [Instr.fill, hp]
  simp only []
  rw [if_neg (by simp [hv]; omega)]
  exact congrArg (fun c => Instr.fill place c rest) key

theorem fill_nil (place : Nat → Option (Nat × Nat)) (cells : Array Value) : Instr.fill place cells [] = some cells := by rw [Instr.fill]

def z32 : List UInt8 := List.replicate 32 0

theorem built36 (parts : List (Nat × Value)) : Yba.prog.built 36 parts = Instr.fill (#[(0, 1), (1, 1), (2, 32)][·]?) (tsL 0 0 z32).toArray parts := by kernel_rfl
theorem built47 (parts : List (Nat × Value)) : Yba.prog.built 47 parts = Instr.fill (#[(0, 34), (34, 32), (66, 32), (98, 1)][·]?) (candL 0 0 z32 z32 z32 (.slice none 0 0)).toArray parts := by kernel_rfl
theorem built44 (parts : List (Nat × Value)) : Yba.prog.built 44 parts = Instr.fill (#[(0, 1), (1, 1)][·]?) #[.int .u64 0, .slice none 0 0] parts := by kernel_rfl
theorem built49 (parts : List (Nat × Value)) : Yba.prog.built 49 parts = Instr.fill (#[(0, 1), (1, 34), (35, 32), (67, 1), (68, 2), (70, 99), (169, 1)][·]?) (reqL ByteArray.empty 0 0 z32 z32 (.slice none 0 0) 0 (.slice none 0 0) (candL 0 0 z32 z32 z32 (.slice none 0 0)) (.slice none 0 0)).toArray parts := by kernel_rfl

theorem z32_len : z32.length = 32 := rfl
theorem bc_len (l : List UInt8) (h : l.length = 32) : (Lib.byteCells l).length = 32 := by rw [Lib.byteCells_length, h]

theorem b36 (x y : Nat) (tag : List UInt8) (ht : tag.length = 32) : Yba.prog.built 36 [(0, .int .u64 x), (1, .int .u64 y), (2, .agg (Lib.byteCells tag).toArray)] = some (tsL x y tag).toArray := by
  have hz := bc_len z32 z32_len
  have h1 := bc_len tag ht
  rw [built36]
  rw [fill_step (p := []) (q := [.int .u64 0]) (r := .int .u64 0 :: Lib.byteCells z32) rfl (by simp [tsL]) rfl rfl]
  rw [fill_step (p := [.int .u64 x]) (q := [.int .u64 0]) (r := Lib.byteCells z32) rfl (by simp [Value.cells]) rfl rfl]
  rw [fill_step (p := [.int .u64 x, .int .u64 y]) (q := Lib.byteCells z32) (r := []) (by rw [hz]; rfl) (by simp [Value.cells]) rfl (by simp [Value.cells, hz, h1])]
  rw [fill_nil]
  simp [Value.cells, tsL]

theorem b44 (x : Nat) (v : Option Addr) (n c : Nat) : Yba.prog.built 44 [(0, .int .u64 x), (1, .slice v n c)] = some #[.int .u64 x, .slice v n c] := by
  rw [built44]
  rw [fill_step (p := []) (q := [.int .u64 0]) (r := [.slice none 0 0]) rfl (by simp) rfl rfl]
  rw [fill_step (p := [.int .u64 x]) (q := [.slice none 0 0]) (r := []) rfl (by simp [Value.cells]) rfl rfl]
  rw [fill_nil]
  simp [Value.cells]

theorem b47 (x y : Nat) (tag non dig : List UInt8) (v : Option Addr) (n c : Nat) (ht : tag.length = 32) (hn : non.length = 32) (hg : dig.length = 32) :
    Yba.prog.built 47 [(0, .agg (tsL x y tag).toArray), (1, .agg (Lib.byteCells non).toArray), (2, .agg (Lib.byteCells dig).toArray), (3, .slice v n c)] = some (candL x y tag non dig (.slice v n c)).toArray := by
  have hz := bc_len z32 z32_len
  have h1 := bc_len non hn
  have h2 := bc_len dig hg
  have h3 := tsL_length (x := x) (y := y) ht
  have h4 := tsL_length (x := 0) (y := 0) z32_len
  rw [built47]
  rw [fill_step (p := []) (q := tsL 0 0 z32) (r := Lib.byteCells z32 ++ (Lib.byteCells z32 ++ [.slice none 0 0])) (by rw [h4]; rfl) (by simp [candL]) rfl (by simp [Value.cells, h3, h4])]
  rw [fill_step (p := tsL x y tag) (q := Lib.byteCells z32) (r := Lib.byteCells z32 ++ [.slice none 0 0]) (by rw [hz]; rfl) (by simp [Value.cells]) h3 (by simp [Value.cells, hz, h1])]
  rw [fill_step (p := tsL x y tag ++ Lib.byteCells non) (q := Lib.byteCells z32) (r := [.slice none 0 0]) (by rw [hz]; rfl) (by simp [Value.cells]) (by simp [h3, h1]) (by simp [Value.cells, hz, h2])]
  rw [fill_step (p := tsL x y tag ++ (Lib.byteCells non ++ Lib.byteCells dig)) (q := [.slice none 0 0]) (r := []) rfl (by simp [Value.cells]) (by simp [h3, h1, h2]) rfl]
  rw [fill_nil]
  simp [Value.cells, candL]

theorem b49 (key : ByteArray) (x y : Nat) (tag non : List UInt8) (vo : Option Addr) (vn vc cl : Nat) (ho : Option Addr) (hn hc : Nat) (fo : Option Addr) (fn fc : Nat) (ht : tag.length = 32) (hnn : non.length = 32) :
    Yba.prog.built 49 [(0, .string key), (1, .agg (tsL x y tag).toArray), (2, .agg (Lib.byteCells non).toArray), (3, .slice vo vn vc), (4, .agg #[.int .u64 cl, .slice ho hn hc]), (6, .slice fo fn fc)] = some (reqL key x y tag non (.slice vo vn vc) cl (.slice ho hn hc) (candL 0 0 z32 z32 z32 (.slice none 0 0)) (.slice fo fn fc)).toArray := by
  have hz := bc_len z32 z32_len
  have h1 := bc_len non hnn
  have h3 := tsL_length (x := x) (y := y) ht
  have h4 := tsL_length (x := 0) (y := 0) z32_len
  have h5 := candL_length (x := 0) (y := 0) (vec := .slice none 0 0) z32_len z32_len z32_len
  generalize hD : candL 0 0 z32 z32 z32 (.slice none 0 0) = D at h5
  rw [built49, hD]
  rw [fill_step (p := []) (q := [.string ByteArray.empty]) (r := tsL 0 0 z32 ++ (Lib.byteCells z32 ++ (.slice none 0 0 :: .int .u64 0 :: .slice none 0 0 :: (D ++ [.slice none 0 0])))) rfl (by simp [reqL]) rfl rfl]
  rw [fill_step (p := [.string key]) (q := tsL 0 0 z32) (r := Lib.byteCells z32 ++ (.slice none 0 0 :: .int .u64 0 :: .slice none 0 0 :: (D ++ [.slice none 0 0]))) (by rw [h4]; rfl) (by simp [Value.cells]) rfl (by simp [Value.cells, h3, h4])]
  rw [fill_step (p := .string key :: tsL x y tag) (q := Lib.byteCells z32) (r := .slice none 0 0 :: .int .u64 0 :: .slice none 0 0 :: (D ++ [.slice none 0 0])) (by rw [hz]; rfl) (by simp [Value.cells]) (by simp [h3]) (by simp [Value.cells, hz, h1])]
  rw [fill_step (p := .string key :: (tsL x y tag ++ Lib.byteCells non)) (q := [.slice none 0 0]) (r := .int .u64 0 :: .slice none 0 0 :: (D ++ [.slice none 0 0])) rfl (by simp [Value.cells]) (by simp [h3, h1]) rfl]
  rw [fill_step (p := .string key :: (tsL x y tag ++ (Lib.byteCells non ++ [.slice vo vn vc]))) (q := [.int .u64 0, .slice none 0 0]) (r := D ++ [.slice none 0 0]) rfl (by simp [Value.cells]) (by simp [h3, h1]) rfl]
  rw [fill_step (p := .string key :: (tsL x y tag ++ (Lib.byteCells non ++ (.slice vo vn vc :: .int .u64 cl :: .slice ho hn hc :: D)))) (q := [.slice none 0 0]) (r := []) rfl (by simp [Value.cells]) (by simp [h3, h1, h5]) rfl]
  rw [fill_nil]
  simp [Value.cells, reqL]
end Go.Proofs.Ybulkoxq
