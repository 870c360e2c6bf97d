import Derived.Test.YbulkoxqWalks3
import Derived.Laws.Cover3
set_option linter.unusedVariables false
set_option linter.unusedSimpArgs false
namespace Go.Proofs.Ybulkoxq
open Go.RowKit

/-- A whole aggregate into the middle of a block. -/
theorem store_row {w : World} {ops : Array Oper} {rest : List Oper} {o : Oper} {a : Act} {Q : Exit → Act → World → Prop} (hw : Region.wanted o (yielded ops a.tmps) = true) (x y : Operand) (t : TypeId) (ho : o.op = .store t x y)
    (g off : Nat) (hx : a.eval x = .pointer (some ⟨g, off, none⟩)) (l : List Value) (hy : a.eval y = .agg l.toArray) (cur : Array Value) (te : TypeId) (hg : w.heap[g]? = some (.cells cur te (0, 0)))
    (hsz : ∀ w, (sizeOf t).run Yba.prog w = .ok l.length w) (hs : off + l.length ≤ cur.size) (h1 : ∀ u ∈ l, u.oneCell' = true)
    (h : wpList Yba.prog ops Q rest (a.put o.dst undef) (w.setRow g (cur.toList.take off ++ l ++ cur.toList.drop (off + l.length)).toArray)) : wpList Yba.prog ops Q (o :: rest) a w := by
  refine wpList_step fun K hK => ?_
  rw [if_pos hw]
  have hr := run_storeCells_at Yba.prog g off te l 0 cur w hg (by simpa using hs) h1
  simp only [Nat.add_zero] at hr
  unfold Oper.wp execOp
  simp [ho, hx, hy, Instr.storeAt, Instr.sureAddr, storeVar, hsz, Value.cells, hr, Result.andThen]
  exact hK _ _ (by simpa [List.append_assoc] using h)

theorem full34 : (Yba.prog.info? 34).map (fun i => (i.zero, i.size, i.bytes)) = some (some (.agg (Lib.byteCells (List.replicate 32 0)).toArray), 32, 32) := by kernel_rfl
theorem full37 : (Yba.prog.info? 37).map (fun i => (i.zero, i.size, i.bytes)) = some (some (.agg (Lib.byteCells (List.replicate 32 0)).toArray), 32, 32) := by kernel_rfl

theorem eqn (a : Option Addr) (m c : Nat) (w : World) : (binOp .eql 25 (.slice a m c) (.slice none 0 0)).run Yba.prog w = .ok (.bool a.isNone) w := by
  simp only [binOp, Sem.run_bind, run_equal_slice_nil w 25 24 a m c Yba.underlying25, Result.andThen_ok, Sem.run_pure]

/-- The row that is filled: the first k arrays are there. -/
structure Fill (w : World) (g m k : Nat) (te : TypeId) (ds : List UInt8) : Prop where
  row : ∃ cur : Array Value, w.heap[g]? = some (.cells cur te (0, 0)) ∧ cur.size = m * 32 ∧ cur.toList.take (k * 32) = Lib.byteCells (ds.take (k * 32))

theorem below_setRow {B : Nat} {a w : World} (h : Below B a w) {g : Nat} (hg : B ≤ g) (cs : Array Value) : Below B a (w.setRow g cs) :=
  h.trans ⟨rfl, rfl, rfl, by simp [World.setRow], fun k hk => setRow_other w g k cs (by omega)⟩

theorem Fill.step {w : World} {g m k : Nat} {te : TypeId} {ds : List UInt8} {cur : Array Value} (hg : w.heap[g]? = some (.cells cur te (0, 0))) (hs : cur.size = m * 32) (ht : cur.toList.take (k * 32) = Lib.byteCells (ds.take (k * 32))) (hk : k < m) (hd : ds.length = m * 32) :
    Fill (w.setRow g (cur.toList.take (k * 32) ++ (Lib.byteCells (nth ds k) ++ cur.toList.drop (k * 32 + (Lib.byteCells (nth ds k)).length))).toArray) g m (k + 1) te ds := by
  rw [← List.append_assoc]
  have hl : (Lib.byteCells (nth ds k)).length = 32 := by rw [Lib.byteCells_length]; exact nth_length hd hk
  refine ⟨_, setRow_heap w g cur _ te _ hg, ?_, ?_⟩
  · have : (cur.toList.take (k * 32)).length = k * 32 := by simp; omega
    simp only [List.size_toArray, List.length_append, this, hl, List.length_drop, Array.length_toList]
    omega
  · rw [ht, ← byteCells_append, take_nth]
    have h2 : (Lib.byteCells (ds.take ((k + 1) * 32))).length = (k + 1) * 32 := by rw [Lib.byteCells_length]; simp; omega
    exact List.take_left' h2

set_option maxHeartbeats 400000 in
theorem macs_nil (w : World) : Calls Yba.prog 10 #[.slice none 0 0] w fun e w' => e = .returned (.slice none 0 0) ∧ w' = w := by
  have he := eqn none 0 0
  simp only [Option.isNone_none] at he
  go_enter Yba.func10, Yba.ntmps10
  go_wp2
  go_ret
  exact ⟨rfl, rfl⟩

set_option maxHeartbeats 400000 in
theorem macs_some (m c : Nat) (ad : Addr) (ds : List UInt8) (hm : m ≤ 1024) (w : World) (hd : Dg w w.heap.size (some ad) m ds) :
    Calls Yba.prog 10 #[.slice (some ad) m c] w fun e w' => e = .returned (.slice (some ⟨w.heap.size, 0, none⟩) m m) ∧ Dg w' w'.heap.size (some ⟨w.heap.size, 0, none⟩) m ds ∧ Below w.heap.size w w' := by
  obtain ⟨i, hi, hz0, hz1, hz2⟩ := info_parts full34
  have HD := Hid.mk hd
  clear hd
  have he := eqn (some ad) m c
  simp only [Option.isNone_some] at he
  go_enter Yba.func10, Yba.ntmps10
  go_wp2_with (at_make; go_must (refine wpList_make_full _ rfl _ _ 38 rfl w.heap.size 34 i _ 32 Yba.underlying38 hi hz0 hz1 _ _ _ _ m rfl rfl rfl rfl (by rw [hz2]; omega) (by unfold maxLen; omega) (Nat.le_refl _) ?_))
  intro w1 ho1 hg1
  have HF : Hid (Fill w1 w.heap.size m 0 34 ds) := Hid.mk (by
    obtain ⟨hl, ⟨hv, _⟩ | ⟨g, cap, cur, hv, hb, hg, hc, hm', hs, htk⟩⟩ := ho1
    · cases hv
    · cases hv
      exact ⟨cur, hg, hs, by simp [Lib.byteCells]⟩)
  have HB : Hid (Below w.heap.size w w1) := Hid.mk ((Below.refl _ w).grown hg1 (Nat.le_refl _) (fun k hk => by cases hk))
  clear ho1 hg1 he
  go_wp2_with fail
  go_loopw [4] (fun vi wr => ∃ k : Nat, k ≤ m ∧ vi = .int .i64 k ∧ Fill wr w.heap.size m k 34 ds ∧ Below w.heap.size w wr) (fun vi _ => m - (intOf vi).toNat)
  case atStart => exact ⟨0, by omega, rfl, HF.out, HB.out⟩
  case round =>
    obtain ⟨k, hk, rfl, hf, hb⟩ := hrel
    have HFr := Hid.mk hf
    have HBr := Hid.mk hb
    clear hf hb
    by_cases hlt : k < m
    · have hlt' : (k : Int) < (m : Int) := by omega
      obtain ⟨ad', e, hlb, hc⟩ := HD.out.lies (by omega)
      cases e
      obtain ⟨cur, hg, hs, htk⟩ := HFr.out.row
      have HG := Hid.mk hg
      have HS := Hid.mk hs
      have HTK := Hid.mk htk
      have HC : Hid (∀ j u, (Lib.byteCells (nth ds k))[j]? = some u → wr.cell? ((ad.add (k * 32)).add j) = some u) := Hid.mk (nth_cell fun j u hu => by rw [HBr.out.cell (by rw [add_block]; exact hlb)]; exact hc j u hu)
      have HL : Hid ((Lib.byteCells (nth ds k)).length = 32) := Hid.mk (by rw [Lib.byteCells_length]; exact nth_length HD.out.len hlt)
      have hsp : ∀ W, (sizeOf 34).run Yba.prog W = .ok (Lib.byteCells (nth ds k)).length W := by rw [HL.out]; exact Yba.sizeOf34
      have HSP := Hid.mk hsp
      clear hc hg hs htk hsp
      go_wp2_with (first | (refine load_agg rfl (.tmp 20) 24 rfl Yba.isAgg24 32 Yba.sizeOf24 (ad.add (k * 32)) rfl (Lib.byteCells (nth ds k)) HL.out HC.out ?_) | (refine store_row rfl (.tmp 22) (.tmp 21) 34 rfl w.heap.size (k * 32) rfl (Lib.byteCells (nth ds k)) rfl cur 34 HG.out HSP.out (by rw [HL.out, HS.out]; omega) (byteCells_one _) ?_))
      exact ⟨⟨k + 1, by omega, by go_num, Fill.step HG.out HS.out HTK.out hlt HD.out.len, below_setRow HBr.out (Nat.le_refl _) _⟩, by simp [intOf]; omega⟩
    · have hlt' : ¬ (k : Int) < (m : Int) := by omega
      obtain rfl : k = m := by omega
      go_wp2_with fail
      go_ret
      refine ⟨rfl, ⟨HD.out.len, fun _ => ⟨_, rfl, ?_, ?_⟩⟩, HBr.out⟩
      · obtain ⟨cur, hg, hs, htk⟩ := HFr.out.row
        exact (Array.getElem?_eq_some_iff.1 hg).1
      · obtain ⟨cur, hg, hs, htk⟩ := HFr.out.row
        refine cells_of hg fun j u hu => ?_
        rw [List.take_of_length_le (by simp [hs]), List.take_of_length_le (by rw [HD.out.len]; omega)] at htk
        rw [Nat.zero_add, ← Array.getElem?_toList, htk]
        exact hu
set_option maxHeartbeats 400000 in
theorem hashes_nil (w : World) : Calls Yba.prog 11 #[.slice none 0 0] w fun e w' => e = .returned (.slice none 0 0) ∧ w' = w := by
  have he := eqn none 0 0
  simp only [Option.isNone_none] at he
  go_enter Yba.func11, Yba.ntmps11
  go_wp2
  go_ret
  exact ⟨rfl, rfl⟩

set_option maxHeartbeats 400000 in
theorem hashes_some (m c : Nat) (ad : Addr) (ds : List UInt8) (hm : m ≤ 1024) (w : World) (hd : Dg w w.heap.size (some ad) m ds) :
    Calls Yba.prog 11 #[.slice (some ad) m c] w fun e w' => e = .returned (.slice (some ⟨w.heap.size, 0, none⟩) m m) ∧ Dg w' w'.heap.size (some ⟨w.heap.size, 0, none⟩) m ds ∧ Below w.heap.size w w' := by
  obtain ⟨i, hi, hz0, hz1, hz2⟩ := info_parts full37
  have HD := Hid.mk hd
  clear hd
  have he := eqn (some ad) m c
  simp only [Option.isNone_some] at he
  go_enter Yba.func11, Yba.ntmps11
  go_wp2_with (at_make; go_must (refine wpList_make_full _ rfl _ _ 41 rfl w.heap.size 37 i _ 32 Yba.underlying41 hi hz0 hz1 _ _ _ _ m rfl rfl rfl rfl (by rw [hz2]; omega) (by unfold maxLen; omega) (Nat.le_refl _) ?_))
  intro w1 ho1 hg1
  have HF : Hid (Fill w1 w.heap.size m 0 37 ds) := Hid.mk (by
    obtain ⟨hl, ⟨hv, _⟩ | ⟨g, cap, cur, hv, hb, hg, hc, hm', hs, htk⟩⟩ := ho1
    · cases hv
    · cases hv
      exact ⟨cur, hg, hs, by simp [Lib.byteCells]⟩)
  have HB : Hid (Below w.heap.size w w1) := Hid.mk ((Below.refl _ w).grown hg1 (Nat.le_refl _) (fun k hk => by cases hk))
  clear ho1 hg1 he
  go_wp2_with fail
  go_loopw [4] (fun vi wr => ∃ k : Nat, k ≤ m ∧ vi = .int .i64 k ∧ Fill wr w.heap.size m k 37 ds ∧ Below w.heap.size w wr) (fun vi _ => m - (intOf vi).toNat)
  case atStart => exact ⟨0, by omega, rfl, HF.out, HB.out⟩
  case round =>
    obtain ⟨k, hk, rfl, hf, hb⟩ := hrel
    have HFr := Hid.mk hf
    have HBr := Hid.mk hb
    clear hf hb
    by_cases hlt : k < m
    · have hlt' : (k : Int) < (m : Int) := by omega
      obtain ⟨ad', e, hlb, hc⟩ := HD.out.lies (by omega)
      cases e
      obtain ⟨cur, hg, hs, htk⟩ := HFr.out.row
      have HG := Hid.mk hg
      have HS := Hid.mk hs
      have HTK := Hid.mk htk
      have HC : Hid (∀ j u, (Lib.byteCells (nth ds k))[j]? = some u → wr.cell? ((ad.add (k * 32)).add j) = some u) := Hid.mk (nth_cell fun j u hu => by rw [HBr.out.cell (by rw [add_block]; exact hlb)]; exact hc j u hu)
      have HL : Hid ((Lib.byteCells (nth ds k)).length = 32) := Hid.mk (by rw [Lib.byteCells_length]; exact nth_length HD.out.len hlt)
      have hsp : ∀ W, (sizeOf 37).run Yba.prog W = .ok (Lib.byteCells (nth ds k)).length W := by rw [HL.out]; exact Yba.sizeOf37
      have HSP := Hid.mk hsp
      clear hc hg hs htk hsp
      go_wp2_with (first | (refine load_agg rfl (.tmp 20) 24 rfl Yba.isAgg24 32 Yba.sizeOf24 (ad.add (k * 32)) rfl (Lib.byteCells (nth ds k)) HL.out HC.out ?_) | (refine store_row rfl (.tmp 22) (.tmp 21) 37 rfl w.heap.size (k * 32) rfl (Lib.byteCells (nth ds k)) rfl cur 37 HG.out HSP.out (by rw [HL.out, HS.out]; omega) (byteCells_one _) ?_))
      exact ⟨⟨k + 1, by omega, by go_num, Fill.step HG.out HS.out HTK.out hlt HD.out.len, below_setRow HBr.out (Nat.le_refl _) _⟩, by simp [intOf]; omega⟩
    · have hlt' : ¬ (k : Int) < (m : Int) := by omega
      obtain rfl : k = m := by omega
      go_wp2_with fail
      go_ret
      refine ⟨rfl, ⟨HD.out.len, fun _ => ⟨_, rfl, ?_, ?_⟩⟩, HBr.out⟩
      · obtain ⟨cur, hg, hs, htk⟩ := HFr.out.row
        exact (Array.getElem?_eq_some_iff.1 hg).1
      · obtain ⟨cur, hg, hs, htk⟩ := HFr.out.row
        refine cells_of hg fun j u hu => ?_
        rw [List.take_of_length_le (by simp [hs]), List.take_of_length_le (by rw [HD.out.len]; omega)] at htk
        rw [Nat.zero_add, ← Array.getElem?_toList, htk]
        exact hu
/-- A slice of 32-byte arrays that came in: nil, or an address. -/
theorem macs10 (m c : Nat) (ao : Option Addr) (ds : List UInt8) (hm : m ≤ 1024) (hn : ao = none → m = 0 ∧ c = 0) (w : World) (hd : Dg w w.heap.size ao m ds) :
    Calls Yba.prog 10 #[.slice ao m c] w fun e w' => ∃ bo c', e = .returned (.slice bo m c') ∧ Dg w' w'.heap.size bo m ds ∧ Below w.heap.size w w' := by
  cases ao with
  | none =>
    obtain ⟨rfl, rfl⟩ := hn rfl
    exact (macs_nil w).mono fun e w' ⟨h1, h2⟩ => ⟨none, 0, h1, h2 ▸ hd, h2 ▸ Below.refl _ _⟩
  | some ad => exact (macs_some m c ad ds hm w hd).mono fun e w' ⟨h1, h2, h3⟩ => ⟨_, _, h1, h2, h3⟩

theorem hashes11 (m c : Nat) (ao : Option Addr) (ds : List UInt8) (hm : m ≤ 1024) (hn : ao = none → m = 0 ∧ c = 0) (w : World) (hd : Dg w w.heap.size ao m ds) :
    Calls Yba.prog 11 #[.slice ao m c] w fun e w' => ∃ bo c', e = .returned (.slice bo m c') ∧ Dg w' w'.heap.size bo m ds ∧ Below w.heap.size w w' := by
  cases ao with
  | none =>
    obtain ⟨rfl, rfl⟩ := hn rfl
    exact (hashes_nil w).mono fun e w' ⟨h1, h2⟩ => ⟨none, 0, h1, h2 ▸ hd, h2 ▸ Below.refl _ _⟩
  | some ad => exact (hashes_some m c ad ds hm w hd).mono fun e w' ⟨h1, h2, h3⟩ => ⟨_, _, h1, h2, h3⟩

end Go.Proofs.Ybulkoxq
