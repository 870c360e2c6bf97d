import Derived.Test.YbulkoxqWalks5
set_option linter.unusedVariables false
set_option linter.unusedSimpArgs false
namespace Go.Proofs.Ybulkoxq
open Go.RowKit

/-- The cells of the argument. -/
def argL (pre : Value) (key : ByteArray) (x y : Nat) (tag non : List UInt8) (vec : Value) (cl : Nat) (hs : Value) (don : Bool) (dx dy : Nat) (dtag dnon ddig : List UInt8) (dvec frag : Value) : List Value :=
  pre :: .string key :: .int .u64 x :: .int .u64 y :: (Lib.byteCells tag ++ (Lib.byteCells non ++ (vec :: .int .u64 cl :: hs :: .bool don :: .int .u64 dx :: .int .u64 dy :: (Lib.byteCells dtag ++ (Lib.byteCells dnon ++ (Lib.byteCells ddig ++ [dvec, frag]))))))

/-- Where the parts of the argument lie. -/
structure Arg (w : World) (q : Nat) (pre : Value) (key : ByteArray) (x y : Nat) (tag non : List UInt8) (vec : Value) (cl : Nat) (hs : Value) (don : Bool) (dx dy : Nat) (dtag dnon ddig : List UInt8) (dvec frag : Value) : Prop where
  pre : w.cell? ⟨q, 0, none⟩ = some pre
  key : w.cell? ⟨q, 1, none⟩ = some (.string key)
  x : w.cell? ⟨q, 2, none⟩ = some (.int .u64 x)
  y : w.cell? ⟨q, 3, none⟩ = some (.int .u64 y)
  tag : ∀ j u, (Lib.byteCells tag)[j]? = some u → w.cell? ((⟨q, 4, none⟩ : Addr).add j) = some u
  non : ∀ j u, (Lib.byteCells non)[j]? = some u → w.cell? ((⟨q, 36, none⟩ : Addr).add j) = some u
  vec : w.cell? ⟨q, 68, none⟩ = some vec
  cl : w.cell? ⟨q, 69, none⟩ = some (.int .u64 cl)
  hs : w.cell? ⟨q, 70, none⟩ = some hs
  don : w.cell? ⟨q, 71, none⟩ = some (.bool don)
  dx : w.cell? ⟨q, 72, none⟩ = some (.int .u64 dx)
  dy : w.cell? ⟨q, 73, none⟩ = some (.int .u64 dy)
  dtag : ∀ j u, (Lib.byteCells dtag)[j]? = some u → w.cell? ((⟨q, 74, none⟩ : Addr).add j) = some u
  dnon : ∀ j u, (Lib.byteCells dnon)[j]? = some u → w.cell? ((⟨q, 106, none⟩ : Addr).add j) = some u
  ddig : ∀ j u, (Lib.byteCells ddig)[j]? = some u → w.cell? ((⟨q, 138, none⟩ : Addr).add j) = some u
  dvec : w.cell? ⟨q, 170, none⟩ = some dvec
  frag : w.cell? ⟨q, 171, none⟩ = some frag

theorem Arg.mk' {w : World} {q : Nat} {pre : Value} {key : ByteArray} {x y : Nat} {tag non : List UInt8} {vec : Value} {cl : Nat} {hs : Value} {don : Bool} {dx dy : Nat} {dtag dnon ddig : List UInt8} {dvec frag : Value} (ht : tag.length = 32) (hn : non.length = 32) (hdt : dtag.length = 32) (hdn : dnon.length = 32) (hdg : ddig.length = 32)
    (hb : w.heap[q]? = some (.cells (argL pre key x y tag non vec cl hs don dx dy dtag dnon ddig dvec frag).toArray 27 (0, 0))) : Arg w q pre key x y tag non vec cl hs don dx dy dtag dnon ddig dvec frag := by
  have l1 : (Lib.byteCells tag).length = 32 := by rw [Lib.byteCells_length, ht]
  have l2 : (Lib.byteCells non).length = 32 := by rw [Lib.byteCells_length, hn]
  have l3 : (Lib.byteCells dtag).length = 32 := by rw [Lib.byteCells_length, hdt]
  have l4 : (Lib.byteCells dnon).length = 32 := by rw [Lib.byteCells_length, hdn]
  have l5 : (Lib.byteCells ddig).length = 32 := by rw [Lib.byteCells_length, hdg]
  constructor
  · exact cell_box hb 0 _ (mid (l := [pre]) (pre := []) (post := (.string key :: (.int .u64 x :: (.int .u64 y :: (Lib.byteCells tag ++ (Lib.byteCells non ++ (vec :: (.int .u64 cl :: (hs :: (.bool don :: (.int .u64 dx :: (.int .u64 dy :: (Lib.byteCells dtag ++ (Lib.byteCells dnon ++ (Lib.byteCells ddig ++ (dvec :: (frag :: []))))))))))))))))) (o := 0) (by simp [argL]) (by simp [l1, l2, l3, l4, l5]) 0 _ rfl)
  · exact cell_box hb 1 _ (mid (l := [.string key]) (pre := (pre :: [])) (post := (.int .u64 x :: (.int .u64 y :: (Lib.byteCells tag ++ (Lib.byteCells non ++ (vec :: (.int .u64 cl :: (hs :: (.bool don :: (.int .u64 dx :: (.int .u64 dy :: (Lib.byteCells dtag ++ (Lib.byteCells dnon ++ (Lib.byteCells ddig ++ (dvec :: (frag :: [])))))))))))))))) (o := 1) (by simp [argL]) (by simp [l1, l2, l3, l4, l5]) 0 _ rfl)
  · exact cell_box hb 2 _ (mid (l := [.int .u64 x]) (pre := (pre :: (.string key :: []))) (post := (.int .u64 y :: (Lib.byteCells tag ++ (Lib.byteCells non ++ (vec :: (.int .u64 cl :: (hs :: (.bool don :: (.int .u64 dx :: (.int .u64 dy :: (Lib.byteCells dtag ++ (Lib.byteCells dnon ++ (Lib.byteCells ddig ++ (dvec :: (frag :: []))))))))))))))) (o := 2) (by simp [argL]) (by simp [l1, l2, l3, l4, l5]) 0 _ rfl)
  · exact cell_box hb 3 _ (mid (l := [.int .u64 y]) (pre := (pre :: (.string key :: (.int .u64 x :: [])))) (post := (Lib.byteCells tag ++ (Lib.byteCells non ++ (vec :: (.int .u64 cl :: (hs :: (.bool don :: (.int .u64 dx :: (.int .u64 dy :: (Lib.byteCells dtag ++ (Lib.byteCells dnon ++ (Lib.byteCells ddig ++ (dvec :: (frag :: [])))))))))))))) (o := 3) (by simp [argL]) (by simp [l1, l2, l3, l4, l5]) 0 _ rfl)
  · exact cells_of hb (mid (pre := (pre :: (.string key :: (.int .u64 x :: (.int .u64 y :: []))))) (post := (Lib.byteCells non ++ (vec :: (.int .u64 cl :: (hs :: (.bool don :: (.int .u64 dx :: (.int .u64 dy :: (Lib.byteCells dtag ++ (Lib.byteCells dnon ++ (Lib.byteCells ddig ++ (dvec :: (frag :: []))))))))))))) (by simp [argL]) (by simp [l1, l2, l3, l4, l5]))
  · exact cells_of hb (mid (pre := (pre :: (.string key :: (.int .u64 x :: (.int .u64 y :: (Lib.byteCells tag ++ [])))))) (post := (vec :: (.int .u64 cl :: (hs :: (.bool don :: (.int .u64 dx :: (.int .u64 dy :: (Lib.byteCells dtag ++ (Lib.byteCells dnon ++ (Lib.byteCells ddig ++ (dvec :: (frag :: [])))))))))))) (by simp [argL]) (by simp [l1, l2, l3, l4, l5]))
  · exact cell_box hb 68 _ (mid (l := [vec]) (pre := (pre :: (.string key :: (.int .u64 x :: (.int .u64 y :: (Lib.byteCells tag ++ (Lib.byteCells non ++ []))))))) (post := (.int .u64 cl :: (hs :: (.bool don :: (.int .u64 dx :: (.int .u64 dy :: (Lib.byteCells dtag ++ (Lib.byteCells dnon ++ (Lib.byteCells ddig ++ (dvec :: (frag :: []))))))))))) (o := 68) (by simp [argL]) (by simp [l1, l2, l3, l4, l5]) 0 _ rfl)
  · exact cell_box hb 69 _ (mid (l := [.int .u64 cl]) (pre := (pre :: (.string key :: (.int .u64 x :: (.int .u64 y :: (Lib.byteCells tag ++ (Lib.byteCells non ++ (vec :: [])))))))) (post := (hs :: (.bool don :: (.int .u64 dx :: (.int .u64 dy :: (Lib.byteCells dtag ++ (Lib.byteCells dnon ++ (Lib.byteCells ddig ++ (dvec :: (frag :: [])))))))))) (o := 69) (by simp [argL]) (by simp [l1, l2, l3, l4, l5]) 0 _ rfl)
  · exact cell_box hb 70 _ (mid (l := [hs]) (pre := (pre :: (.string key :: (.int .u64 x :: (.int .u64 y :: (Lib.byteCells tag ++ (Lib.byteCells non ++ (vec :: (.int .u64 cl :: []))))))))) (post := (.bool don :: (.int .u64 dx :: (.int .u64 dy :: (Lib.byteCells dtag ++ (Lib.byteCells dnon ++ (Lib.byteCells ddig ++ (dvec :: (frag :: []))))))))) (o := 70) (by simp [argL]) (by simp [l1, l2, l3, l4, l5]) 0 _ rfl)
  · exact cell_box hb 71 _ (mid (l := [.bool don]) (pre := (pre :: (.string key :: (.int .u64 x :: (.int .u64 y :: (Lib.byteCells tag ++ (Lib.byteCells non ++ (vec :: (.int .u64 cl :: (hs :: [])))))))))) (post := (.int .u64 dx :: (.int .u64 dy :: (Lib.byteCells dtag ++ (Lib.byteCells dnon ++ (Lib.byteCells ddig ++ (dvec :: (frag :: [])))))))) (o := 71) (by simp [argL]) (by simp [l1, l2, l3, l4, l5]) 0 _ rfl)
  · exact cell_box hb 72 _ (mid (l := [.int .u64 dx]) (pre := (pre :: (.string key :: (.int .u64 x :: (.int .u64 y :: (Lib.byteCells tag ++ (Lib.byteCells non ++ (vec :: (.int .u64 cl :: (hs :: (.bool don :: []))))))))))) (post := (.int .u64 dy :: (Lib.byteCells dtag ++ (Lib.byteCells dnon ++ (Lib.byteCells ddig ++ (dvec :: (frag :: []))))))) (o := 72) (by simp [argL]) (by simp [l1, l2, l3, l4, l5]) 0 _ rfl)
  · exact cell_box hb 73 _ (mid (l := [.int .u64 dy]) (pre := (pre :: (.string key :: (.int .u64 x :: (.int .u64 y :: (Lib.byteCells tag ++ (Lib.byteCells non ++ (vec :: (.int .u64 cl :: (hs :: (.bool don :: (.int .u64 dx :: [])))))))))))) (post := (Lib.byteCells dtag ++ (Lib.byteCells dnon ++ (Lib.byteCells ddig ++ (dvec :: (frag :: [])))))) (o := 73) (by simp [argL]) (by simp [l1, l2, l3, l4, l5]) 0 _ rfl)
  · exact cells_of hb (mid (pre := (pre :: (.string key :: (.int .u64 x :: (.int .u64 y :: (Lib.byteCells tag ++ (Lib.byteCells non ++ (vec :: (.int .u64 cl :: (hs :: (.bool don :: (.int .u64 dx :: (.int .u64 dy :: []))))))))))))) (post := (Lib.byteCells dnon ++ (Lib.byteCells ddig ++ (dvec :: (frag :: []))))) (by simp [argL]) (by simp [l1, l2, l3, l4, l5]))
  · exact cells_of hb (mid (pre := (pre :: (.string key :: (.int .u64 x :: (.int .u64 y :: (Lib.byteCells tag ++ (Lib.byteCells non ++ (vec :: (.int .u64 cl :: (hs :: (.bool don :: (.int .u64 dx :: (.int .u64 dy :: (Lib.byteCells dtag ++ [])))))))))))))) (post := (Lib.byteCells ddig ++ (dvec :: (frag :: [])))) (by simp [argL]) (by simp [l1, l2, l3, l4, l5]))
  · exact cells_of hb (mid (pre := (pre :: (.string key :: (.int .u64 x :: (.int .u64 y :: (Lib.byteCells tag ++ (Lib.byteCells non ++ (vec :: (.int .u64 cl :: (hs :: (.bool don :: (.int .u64 dx :: (.int .u64 dy :: (Lib.byteCells dtag ++ (Lib.byteCells dnon ++ []))))))))))))))) (post := (dvec :: (frag :: []))) (by simp [argL]) (by simp [l1, l2, l3, l4, l5]))
  · exact cell_box hb 170 _ (mid (l := [dvec]) (pre := (pre :: (.string key :: (.int .u64 x :: (.int .u64 y :: (Lib.byteCells tag ++ (Lib.byteCells non ++ (vec :: (.int .u64 cl :: (hs :: (.bool don :: (.int .u64 dx :: (.int .u64 dy :: (Lib.byteCells dtag ++ (Lib.byteCells dnon ++ (Lib.byteCells ddig ++ [])))))))))))))))) (post := (frag :: [])) (o := 170) (by simp [argL]) (by simp [l1, l2, l3, l4, l5]) 0 _ rfl)
  · exact cell_box hb 171 _ (mid (l := [frag]) (pre := (pre :: (.string key :: (.int .u64 x :: (.int .u64 y :: (Lib.byteCells tag ++ (Lib.byteCells non ++ (vec :: (.int .u64 cl :: (hs :: (.bool don :: (.int .u64 dx :: (.int .u64 dy :: (Lib.byteCells dtag ++ (Lib.byteCells dnon ++ (Lib.byteCells ddig ++ (dvec :: []))))))))))))))))) (post := []) (o := 171) (by simp [argL]) (by simp [l1, l2, l3, l4, l5]) 0 _ rfl)

/-- A slice of bytes that came in. -/
structure By (w : World) (B : Nat) (ao : Option Addr) (m c : Nat) (ds : List UInt8) : Prop where
  len : ds.length = m
  none : ao = none → m = 0 ∧ c = 0
  lies : ∀ ad, ao = some ad → ∀ j u, (Lib.byteCells ds)[j]? = some u → ad.block < B ∧ w.cell? (ad.add j) = some u

theorem By.later {w w' : World} {B B' : Nat} {ao : Option Addr} {m c : Nat} {ds : List UInt8} (h : By w B ao m c ds) (hb : Below B w w') (hB : B ≤ B') : By w' B' ao m c ds :=
  ⟨h.len, h.none, fun ad had j u hu => by
    obtain ⟨h1, h2⟩ := h.lies ad had j u hu
    exact ⟨by omega, by rw [hb.cell (by rw [add_block]; exact h1)]; exact h2⟩⟩

theorem stepB {B : Nat} {w0 wr w' : World} {o : Obj} {u v : Value} (hb : Below B w0 wr) (hB : B ≤ wr.heap.size) (hr : ∀ k, u.ownBlock = some k → B ≤ k) (ha : Ap (wr.alloc o) u w' v) : Below B w0 w' :=
  (hb.alloc hB o).trans (ha.below (by simp; omega) hr)

theorem guard24 : Yba.prog.eqGuardType Yba.prog.depth 24 = false := by kernel_rfl
end Go.Proofs.Ybulkoxq
