import Derived.Test.YbulkoxqWalks18
set_option linter.unusedVariables false
set_option linter.unusedSimpArgs false
namespace Go.Proofs.Ybulkoxq
open Go.RowKit

theorem argL_length (pre : Value) (key : ByteArray) (x y : Nat) (tag non : List UInt8) (vec : Value) (cl : Nat) (hs : Value) (don : Bool) (dx dy : Nat) (dtag dnon ddig : List UInt8) (dvec frag : Value) (ht : tag.length = 32) (hn : non.length = 32) (hdt : dtag.length = 32) (hdn : dnon.length = 32) (hdg : ddig.length = 32) :
    (argL pre key x y tag non vec cl hs don dx dy dtag dnon ddig dvec frag).length = 172 := by
  simp [argL, Lib.byteCells_length, ht, hn, hdt, hdn, hdg]

set_option maxRecDepth 100000 in
set_option maxHeartbeats 1000000 in
/-- The law where something is too long. -/
theorem law_big (L : List Value) (hl : L.length = 172) (w : World) (hbig : ∀ W : World, Calls Yba.prog 5 #[.agg L.toArray] W fun e w' => e = .returned (.bool true) ∧ Below W.heap.size W w') :
    Calls Yba.prog 3 #[.agg L.toArray] w fun e w' => e = .returned (.bool true) ∧ Below w.heap.size w w' := by
  have HB := Hid.mk hbig
  have HL := Hid.mk hl
  have hc := Hid.mk (cells_new w L.toArray 27 w.heap.size L rfl rfl)
  clear hbig hl
  go_enter Yba.func3, Yba.ntmps3
  go_wp2_with (refine load_agg rfl (.tmp 1) 27 rfl Yba.isAgg27 172 Yba.sizeOf27 ⟨w.heap.size, 0, none⟩ rfl L HL.out hc.out ?_)
  refine (HB.out _).mono ?_
  rintro e w1 ⟨rfl, hb1⟩
  have B1 := Hid.mk (((Below.refl _ w).alloc (Nat.le_refl _) _).trans (hb1.mono (by simp)))
  clear hb1
  go_wp2_with fail
  go_ret
  exact ⟨rfl, B1.out⟩
end Go.Proofs.Ybulkoxq
