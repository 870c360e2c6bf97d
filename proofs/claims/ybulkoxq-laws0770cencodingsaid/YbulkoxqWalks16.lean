import Derived.Test.YbulkoxqWalks15
set_option linter.unusedVariables false
set_option linter.unusedSimpArgs false
namespace Go.Proofs.Ybulkoxq
open Go.RowKit

/-- 'string(b)'. -/
theorem op_str {w : World} {ops : Array Oper} {rest : List Oper} {o : Oper} {a : Act} {Q : Exit → Act → World → Prop} (hw : Region.wanted o (yielded ops a.tmps) = true) (x : Operand) (ho : o.op = .convert 22 9 x)
    (ad : Addr) (bs : List UInt8) (n cap : Nat) (hn : n = bs.length) (hx : a.eval x = .slice (some ad) n cap) (hc : ∀ j u, (Lib.byteCells bs)[j]? = some u → w.cell? (ad.add j) = some u)
    (h : wpList Yba.prog ops Q rest (a.put o.dst (.string ⟨bs.toArray⟩)) w) : wpList Yba.prog ops Q (o :: rest) a w := by
  refine wpList_step fun K hK => ?_
  rw [if_pos hw]
  subst hn
  have hr := run_convert_bytes_back (P := Yba.prog) w 22 9 5 ad cap bs Yba.underlying22 Yba.underlying5 Yba.underlying9 (fun j hj => hc j _ (by simp [Lib.byteCells, hj]))
  unfold Oper.wp execOp
  simp only [ho, hx, Sem.run_bind, hr, Result.andThen_ok, Sem.run_pure]
  exact hK _ _ h

set_option maxHeartbeats 400000 in
/-- 'bytes.Equal' of two rows with the same bytes. -/
theorem eq8 (a1 a2 : Addr) (n c1 c2 : Nat) (bs : List UInt8) (hn : n = bs.length) (w : World) (h1 : ∀ j u, (Lib.byteCells bs)[j]? = some u → w.cell? (a1.add j) = some u) (h2 : ∀ j u, (Lib.byteCells bs)[j]? = some u → w.cell? (a2.add j) = some u) :
    Calls Yba.prog 8 #[.slice (some a1) n c1, .slice (some a2) n c2] w fun e w' => e = .returned (.bool true) ∧ w' = w := by
  have H1 := Hid.mk h1
  have H2 := Hid.mk h2
  have HN := Hid.mk hn
  clear h1 h2 hn
  go_enter Yba.func8, Yba.ntmps8
  go_wp2_with (first | (refine op_str rfl (.tmp 5) rfl a1 bs n c1 HN.out rfl H1.out ?_) | (refine op_str rfl (.tmp 7) rfl a2 bs n c2 HN.out rfl H2.out ?_))
  go_ret
  exact ⟨by simp, rfl⟩

/-- A list of bytes, as cells, is the cells of bytes. -/
theorem cells_bytes : ∀ (l : List Value), (∀ u ∈ l, ∃ z : Int, u = .int .u8 z ∧ 0 ≤ z ∧ z < 256) → ∃ bs : List UInt8, l = Lib.byteCells bs
  | [], _ => ⟨[], rfl⟩
  | u :: l, h => by
    obtain ⟨bs, rfl⟩ := cells_bytes l (fun v hv => h v (List.mem_cons_of_mem _ hv))
    obtain ⟨z, rfl, h0, h1⟩ := h u List.mem_cons_self
    refine ⟨UInt8.ofNat z.toNat :: bs, ?_⟩
    simp [Lib.byteCells]
    omega
end Go.Proofs.Ybulkoxq
