import Derived.Test.YbulkoxqWalks1
import Derived.Deep.WholeRow
import Derived.Stop.BytesEq
import Derived.Shelf.Bin.AppendUvarint
set_option linter.unusedVariables false
namespace Go.Proofs.Ybulkoxq
open Go.RowKit

/-- A whole aggregate out of memory. -/
theorem load_agg {w : World} {ops : Array Oper} {rest : List Oper} {o : Oper} {a : Act} {Q : Exit → Act → World → Prop} (hw : Region.wanted o (yielded ops a.tmps) = true) (x : Operand) (t : TypeId) (ho : o.op = .load t x)
    (hag : ∀ w, (isAgg t).run Yba.prog w = .ok true w) (m : Nat) (hsz : ∀ w, (sizeOf t).run Yba.prog w = .ok m w) (ad : Addr) (hx : a.eval x = .pointer (some ad))
    (l : List Value) (hl : l.length = m) (hc : ∀ j u, l[j]? = some u → w.cell? (ad.add j) = some u)
    (h : wpList Yba.prog ops Q rest (a.put o.dst (.agg l.toArray)) w) : wpList Yba.prog ops Q (o :: rest) a w := by
  refine wpList_step fun K hK => ?_
  rw [if_pos hw]
  subst hl
  have hr := run_loadCells_list (P := Yba.prog) w ad l hc
  unfold Oper.wp execOp
  simp [ho, hx, Instr.loadAt, Instr.sureAddr, loadVar, hag, hsz, hr, Result.andThen]
  exact hK _ _ h

/-- A whole aggregate into the block that was made last. -/
theorem store_new {w W : World} {ops : Array Oper} {rest : List Oper} {o : Oper} {a : Act} {Q : Exit → Act → World → Prop} (hw : Region.wanted o (yielded ops a.tmps) = true) (x y : Operand) (t : TypeId) (ho : o.op = .store t x y)
    (c : Array Value) (hW : W = w.alloc (.cells c t)) (hx : a.eval x = .pointer (some ⟨w.heap.size, 0, none⟩)) (c' : Array Value) (hy : a.eval y = .agg c')
    (hi : (Yba.prog.info? t).map (·.size) = some c'.size) (hs : c.size = c'.size) (h1 : c'.all (·.oneCell') = true)
    (h : wpList Yba.prog ops Q rest (a.put o.dst undef) (w.alloc (.cells c' t))) : wpList Yba.prog ops Q (o :: rest) a W := by
  refine wpList_step fun K hK => ?_
  rw [if_pos hw]
  subst hW
  have hr := run_storeAt_new (P := Yba.prog) w t c c' hi hs h1
  unfold Oper.wp execOp
  simp [ho, hx, hy, hr, Result.andThen]
  exact hK _ _ h

theorem info34 : (Yba.prog.info? 34).map (·.size) = some 32 := by kernel_rfl
theorem info37 : (Yba.prog.info? 37).map (·.size) = some 32 := by kernel_rfl
theorem info24 : (Yba.prog.info? 24).map (·.size) = some 32 := by kernel_rfl

theorem byteCells_one (l : List UInt8) : ∀ u ∈ Lib.byteCells l, u.oneCell' = true := by
  intro u hu
  obtain ⟨_, _, rfl⟩ := List.mem_map.1 hu
  rfl

/-- What was boxed lies there still. -/
theorem Ap.box {w w1 : World} {v v1 : Value} {B n : Nat} {xs : List Value} {o : Obj} (hown : w.ownsRow B 5 1 v n xs) (h : Ap (w.alloc o) v w1 v1) : w1.heap[w.heap.size]? = some o := by
  rw [h.block (by simp) fun e => by have := (hown.lt _ e).2; omega]
  exact heap_alloc_new w o

set_option maxHeartbeats 400000 in
/-- 'appendLength'. -/
theorem len17 (B n m c : Nat) (ao : Option Addr) (hm : m ≤ 1024) (v : Value) (xs : List Value) (w : World) (hown : w.ownsRow B 5 1 v n xs) (hB : B ≤ w.heap.size) (hlim : n + 10 ≤ 140737488355328) :
    Calls Yba.prog 17 #[v, .slice ao m c] w fun e w' => ∃ v', e = .returned v' ∧ w'.ownsRow B 5 1 v' (n + (uvl m).length) (xs ++ uvl m) ∧ Ap w v w' v' := by
  have HC := Hid.mk (uv21 B n m hm v xs w hown hB hlim)
  clear hown
  go_enter Yba.func17, Yba.ntmps17
  go_wp2_with (go_at_call 21; go_must (refine HC.out.mono ?_); rintro e w1 ⟨v1, rfl, ho1, ha1⟩; have HO1 := Hid.mk ho1; have HA1 := Hid.mk ha1; clear ho1 ha1)
  go_ret
  exact ⟨_, rfl, HO1.out, HA1.out⟩

theorem cell_box {w : World} {g : Nat} {c : Array Value} {t : TypeId} (h : w.heap[g]? = some (.cells c t (0, 0))) (j : Nat) (u : Value) (hu : c[j]? = some u) : w.cell? ⟨g, j, none⟩ = some u := by
  simp [World.cell?, h, hu]

theorem add_block (ad : Addr) (j : Nat) : (ad.add j).block = ad.block := by unfold Addr.add; split <;> rfl

theorem add_add (ad : Addr) (i j : Nat) : (ad.add i).add j = ad.add (i + j) := by
  unfold Addr.add
  by_cases hi : i = 0 <;> by_cases hj : j = 0 <;> simp [hi, hj, Nat.add_assoc]

theorem cell_lt {w : World} {p : Addr} {u : Value} (h : w.cell? p = some u) : p.block < w.heap.size := by
  by_cases hlt : p.block < w.heap.size
  · exact hlt
  · have : w.heap[p.block]? = none := by simp; omega
    simp [World.cell?, this] at h

theorem Ap.cell {a b : World} {u v : Value} (h : Ap a u b v) {p : Addr} {x : Value} (hc : a.cell? p = some x) (hne : u.ownBlock ≠ some p.block) : b.cell? p = some x := by
  rw [World.cell?_of_block (h.block (cell_lt hc) hne)]
  exact hc

set_option maxHeartbeats 400000 in
/-- 'appendTimestamp'. -/
theorem ts13 (B n x y : Nat) (tag : List UInt8) (hx : x < 18446744073709551616) (hy : y < 18446744073709551616) (ht : tag.length = 32) (v : Value) (xs : List Value) (w : World) (hown : w.ownsRow B 5 1 v n xs) (hB : B ≤ w.heap.size) (hlim : n + 100 ≤ 140737488355328) :
    Calls Yba.prog 13 #[v, .agg (Value.int .u64 x :: Value.int .u64 y :: Lib.byteCells tag).toArray] w fun e w' => ∃ v', e = .returned v' ∧ w'.ownsRow B 5 1 v' (n + 48) (xs ++ (bel x ++ bel y ++ Lib.byteCells tag)) ∧ Ap w v w' v' := by
  have HO := Hid.mk hown
  have HT := Hid.mk ht
  clear hown ht
  go_enter Yba.func13, Yba.ntmps13
  go_wp2_with fail
  refine (be20 B n x hx v xs _ (HO.out.alloc _) (by simp; omega) (by omega)).mono ?_
  rintro e w1 ⟨v1, rfl, ho1, ha1⟩
  have HO1 := Hid.mk ho1
  have HA1 := Hid.mk ha1
  have c1 := cell_box (Ap.box HO.out ha1) 1 (.int .u64 y) (by simp)
  have hB1 : B ≤ w1.heap.size := Nat.le_trans (by simp; omega) ha1.grown.size
  clear ho1 ha1
  go_wp2_with fail
  refine (be20 B _ y hy v1 _ w1 HO1.out hB1 (by omega)).mono ?_
  rintro e w2 ⟨v2, rfl, ho2, ha2⟩
  have HO2 := Hid.mk ho2
  have HA2 := Hid.mk (HA1.out.trans ha2)
  have c2 := Hid.mk (Ap.box HO.out (HA1.out.trans ha2))
  have hB2 : B ≤ w2.heap.size := Nat.le_trans hB1 ha2.grown.size
  clear ho2 ha2
  go_wp2_with (at_builtin; go_must (refine app rfl _ _ rfl B _ _ _ rfl HO2.out _ 32 32 (Lib.byteCells tag) rfl (by rw [Lib.byteCells_length]; exact HT.out) (by intro h; cases h) (by intro ad had; cases had; exact cells_of c2.out (by intro j u hu; simpa [Nat.add_comm 2 j] using hu)) (byteCells_one _) (by omega) hB2 ?_); intro v3 w3 ho3 ha3; have HO3 := Hid.mk ho3; have HA3 := Hid.mk ha3; clear ho3 ha3)
  go_ret
  exact ⟨_, rfl, by simpa [List.append_assoc] using HO3.out, ((Ap.refl _ _).alloc _).trans (HA2.out.trans HA3.out)⟩

set_option maxHeartbeats 400000 in
/-- 'appendBytes'. -/
theorem bytes12 (B n m c : Nat) (ao : Option Addr) (hm : m ≤ 1024) (key : List UInt8) (hk : key.length = m) (v : Value) (xs : List Value) (w : World) (hown : w.ownsRow B 5 1 v n xs) (hB : B ≤ w.heap.size) (hlim : n + 2000 ≤ 140737488355328)
    (hn : ao = none → m = 0 ∧ c = 0) (hs : ∀ ad, ao = some ad → v.ownBlock ≠ some ad.block ∧ ∀ j u, (Lib.byteCells key)[j]? = some u → w.cell? (ad.add j) = some u) :
    Calls Yba.prog 12 #[v, .slice ao m c] w fun e w' => ∃ v', e = .returned v' ∧ w'.ownsRow B 5 1 v' (n + (uvl m).length + m) (xs ++ (uvl m ++ Lib.byteCells key)) ∧ Ap w v w' v' := by
  have HO := Hid.mk hown
  have HK := Hid.mk hk
  have HN := Hid.mk hn
  have HS := Hid.mk hs
  have hu : (uvl m).length ≤ 2 := by unfold uvl; split <;> simp
  clear hown hk hn hs
  go_enter Yba.func12, Yba.ntmps12
  go_wp2_with fail
  refine (len17 B n m c ao hm v xs w HO.out hB (by omega)).mono ?_
  rintro e w1 ⟨v1, rfl, ho1, ha1⟩
  have HO1 := Hid.mk ho1
  have HA1 := Hid.mk ha1
  have hB1 : B ≤ w1.heap.size := Nat.le_trans hB ha1.grown.size
  clear ho1 ha1
  go_wp2_with (at_builtin; go_must (refine app rfl _ _ rfl B _ _ _ rfl HO1.out ao m c (Lib.byteCells key) rfl (by rw [Lib.byteCells_length]; exact HK.out) HN.out (by intro ad had j u hu; exact HA1.out.cell ((HS.out ad had).2 j u hu) (by rw [add_block]; exact (HS.out ad had).1)) (byteCells_one _) (by omega) hB1 ?_); intro v3 w3 ho3 ha3; have HO3 := Hid.mk ho3; have HA3 := Hid.mk ha3; clear ho3 ha3)
  go_ret
  exact ⟨_, rfl, by simpa [List.append_assoc] using HO3.out, HA1.out.trans HA3.out⟩

theorem all_one (l : List UInt8) : (Lib.byteCells l).toArray.all (·.oneCell') = true := by
  simp only [List.all_toArray, List.all_eq_true]
  exact byteCells_one l

/-- A slice of 32-byte arrays that lies below B: its bytes. -/
structure Dg (w : World) (B : Nat) (ao : Option Addr) (m : Nat) (ds : List UInt8) : Prop where
  len : ds.length = m * 32
  lies : 0 < m → ∃ ad, ao = some ad ∧ ad.block < B ∧ ∀ j u, (Lib.byteCells ds)[j]? = some u → w.cell? (ad.add j) = some u

theorem Dg.later {w w' : World} {B B' : Nat} {ao : Option Addr} {m : Nat} {ds : List UInt8} (h : Dg w B ao m ds) (hb : Below B w w') (hB : B ≤ B') : Dg w' B' ao m ds :=
  ⟨h.len, fun hm => by
    obtain ⟨ad, e, hl, hc⟩ := h.lies hm
    exact ⟨ad, e, by omega, fun j u hu => by rw [hb.cell (by rw [add_block]; exact hl)]; exact hc j u hu⟩⟩

/-- The bytes of the k-th array. -/
def nth (ds : List UInt8) (k : Nat) : List UInt8 := (ds.drop (k * 32)).take 32

theorem nth_length {ds : List UInt8} {m k : Nat} (h : ds.length = m * 32) (hk : k < m) : (nth ds k).length = 32 := by
  simp [nth]
  omega

theorem nth_cell {ds : List UInt8} {k : Nat} {w : World} {ad : Addr} (h : ∀ j u, (Lib.byteCells ds)[j]? = some u → w.cell? (ad.add j) = some u) : ∀ j u, (Lib.byteCells (nth ds k))[j]? = some u → w.cell? ((ad.add (k * 32)).add j) = some u := by
  intro j u hu
  rw [add_add]
  apply h
  by_cases hj : j < 32
  · simpa [nth, Lib.byteCells, hj, List.getElem?_take] using hu
  · simp [nth, Lib.byteCells, hj, List.getElem?_take] at hu

theorem take_nth (ds : List UInt8) (k : Nat) : ds.take (k * 32) ++ nth ds k = ds.take ((k + 1) * 32) := by
  rw [nth, Nat.succ_mul, List.take_add]

theorem byteCells_append (a b : List UInt8) : Lib.byteCells (a ++ b) = Lib.byteCells a ++ Lib.byteCells b := by simp [Lib.byteCells]

set_option maxHeartbeats 1000000 in
/-- 'appendDigests' of MACs. -/
theorem dig14 (B n m c : Nat) (ao : Option Addr) (ds : List UInt8) (hm : m ≤ 1024) (v : Value) (xs : List Value) (w : World) (hown : w.ownsRow B 5 1 v n xs) (hB : B ≤ w.heap.size) (hlim : n + 100000 ≤ 140737488355328) (hd : Dg w B ao m ds) :
    Calls Yba.prog 14 #[v, .slice ao m c] w fun e w' => ∃ v', e = .returned v' ∧ w'.ownsRow B 5 1 v' (n + (uvl m).length + m * 32) (xs ++ (uvl m ++ Lib.byteCells ds)) ∧ Ap w v w' v' := by
  have HO := Hid.mk hown
  have HD := Hid.mk hd
  have hu : (uvl m).length ≤ 2 := by unfold uvl; split <;> simp
  have HG := Hid.mk (own_ge hown)
  clear hown hd
  go_enter Yba.func14, Yba.ntmps14
  go_wp2_with fail
  refine (uv21 B n m hm v xs w HO.out hB (by omega)).mono ?_
  rintro e w1 ⟨v1, rfl, ho1, ha1⟩
  have HO1 := Hid.mk ho1
  have HA1 := Hid.mk ha1
  clear ho1 ha1
  go_wp2_with fail
  go_loopw [0, 14] (fun vb vi wr => ∃ k : Nat, k ≤ m ∧ vi = .int .i64 k ∧ wr.ownsRow B 5 1 vb (n + (uvl m).length + k * 32) (xs ++ (uvl m ++ Lib.byteCells (ds.take (k * 32)))) ∧ Ap w v wr vb) (fun _ vi _ => m - (intOf vi).toNat)
  case atStart => exact ⟨0, by omega, rfl, by simpa [Lib.byteCells] using HO1.out, HA1.out⟩
  case round =>
    obtain ⟨k, hk, rfl, ho, ha⟩ := hrel
    have HOr := Hid.mk ho
    have HAr := Hid.mk ha
    have hBr : B ≤ wr.heap.size := Nat.le_trans hB ha.grown.size
    clear ho ha
    by_cases hlt : k < m
    · have hlt' : (k : Int) < (m : Int) := by omega
      obtain ⟨ad, rfl, hlb, hc⟩ := HD.out.lies (by omega)
      have HC : Hid (∀ j u, (Lib.byteCells (nth ds k))[j]? = some u → wr.cell? ((ad.add (k * 32)).add j) = some u) := Hid.mk (nth_cell fun j u hu => HAr.out.cell (hc j u hu) fun e => by have := HG.out _ e; rw [add_block] at this; omega)
      have HL : Hid ((nth ds k).length = 32) := Hid.mk (nth_length HD.out.len hlt)
      clear hc
      go_wp2_with (first | (refine load_agg rfl (.tmp 16) 34 rfl Yba.isAgg34 32 Yba.sizeOf34 (ad.add (k * 32)) rfl (Lib.byteCells (nth ds k)) (by rw [Lib.byteCells_length]; exact HL.out) HC.out ?_) | (refine store_new rfl (.tmp 6) (.tmp 17) 34 rfl _ rfl rfl (Lib.byteCells (nth ds k)).toArray rfl (by rw [info34]; simp [Lib.byteCells_length, HL.out]) (by simp [Lib.byteCells_length, HL.out]) (all_one _) ?_) | (at_builtin; go_must (refine app rfl _ _ rfl B _ _ _ rfl (HOr.out.alloc _) _ 32 32 (Lib.byteCells (nth ds k)) rfl (by rw [Lib.byteCells_length]; exact HL.out) (by intro h; cases h) (by intro ad had; cases had; exact cells_new _ _ _ _ _ rfl rfl) (byteCells_one _) (by omega) (by simp; omega) ?_); intro v3 w3 ho3 ha3; have HO3 := Hid.mk ho3; have HA3 := Hid.mk ha3; clear ho3 ha3))
      refine ⟨⟨k + 1, by omega, by go_num, ?_, (HAr.out.alloc _).trans HA3.out⟩, by simp [intOf]; omega⟩
      have h1 := HO3.out
      rw [← take_nth, byteCells_append]
      rw [show n + (uvl m).length + (k + 1) * 32 = n + (uvl m).length + k * 32 + 32 by omega]
      simpa [List.append_assoc] using h1
    · have hlt' : ¬ (k : Int) < (m : Int) := by omega
      obtain rfl : k = m := by omega
      go_wp2_with fail
      go_ret
      exact ⟨_, rfl, by have := HOr.out; rwa [List.take_of_length_le (by rw [HD.out.len]; omega)] at this, HAr.out⟩
end Go.Proofs.Ybulkoxq
