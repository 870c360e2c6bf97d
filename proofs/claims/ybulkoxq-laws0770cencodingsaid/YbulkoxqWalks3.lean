import Derived.Test.YbulkoxqWalks2
set_option linter.unusedVariables false
set_option linter.unusedSimpArgs false
namespace Go.Proofs.Ybulkoxq
open Go.RowKit

set_option maxHeartbeats 1000000 in
/-- 'appendDigests' of hashes. -/
theorem dig22 (B n m c : Nat) (ao : Option Addr) (ds : List UInt8) (hm : m ≤ 1024) (v : Value) (xs : List Value) (w : World) (hown : w.ownsRow B 5 1 v n xs) (hB : B ≤ w.heap.size) (hlim : n + 100000 ≤ 140737488355328) (hd : Dg w B ao m ds) :
    Calls Yba.prog 22 #[v, .slice ao m c] w fun e w' => ∃ v', e = .returned v' ∧ w'.ownsRow B 5 1 v' (n + (uvl m).length + m * 32) (xs ++ (uvl m ++ Lib.byteCells ds)) ∧ Ap w v w' v' := by
  have HO := Hid.mk hown
  have HD := Hid.mk hd
  have hu : (uvl m).length ≤ 2 := by unfold uvl; split <;> simp
  have HG := Hid.mk (own_ge hown)
  clear hown hd
  go_enter Yba.func22, Yba.ntmps22
  go_wp2_with fail
  refine (uv21 B n m hm v xs w HO.out hB (by omega)).mono ?_
  rintro e w1 ⟨v1, rfl, ho1, ha1⟩
  have HO1 := Hid.mk ho1
  have HA1 := Hid.mk ha1
  clear ho1 ha1
  go_wp2_with fail
  go_loopw [0, 14] (fun vb vi wr => ∃ k : Nat, k ≤ m ∧ vi = .int .i64 k ∧ wr.ownsRow B 5 1 vb (n + (uvl m).length + k * 32) (xs ++ (uvl m ++ Lib.byteCells (ds.take (k * 32)))) ∧ Ap w v wr vb) (fun _ vi _ => m - (intOf vi).toNat)
  case atStart => exact ⟨0, by omega, rfl, by simpa [Lib.byteCells] using HO1.out, HA1.out⟩
  case round =>
    obtain ⟨k, hk, rfl, ho, ha⟩ := hrel
    have HOr := Hid.mk ho
    have HAr := Hid.mk ha
    have hBr : B ≤ wr.heap.size := Nat.le_trans hB ha.grown.size
    clear ho ha
    by_cases hlt : k < m
    · have hlt' : (k : Int) < (m : Int) := by omega
      obtain ⟨ad, rfl, hlb, hc⟩ := HD.out.lies (by omega)
      have HC : Hid (∀ j u, (Lib.byteCells (nth ds k))[j]? = some u → wr.cell? ((ad.add (k * 32)).add j) = some u) := Hid.mk (nth_cell fun j u hu => HAr.out.cell (hc j u hu) fun e => by have := HG.out _ e; rw [add_block] at this; omega)
      have HL : Hid ((nth ds k).length = 32) := Hid.mk (nth_length HD.out.len hlt)
      clear hc
      go_wp2_with (first | (refine load_agg rfl (.tmp 16) 37 rfl Yba.isAgg37 32 Yba.sizeOf37 (ad.add (k * 32)) rfl (Lib.byteCells (nth ds k)) (by rw [Lib.byteCells_length]; exact HL.out) HC.out ?_) | (refine store_new rfl (.tmp 6) (.tmp 17) 37 rfl _ rfl rfl (Lib.byteCells (nth ds k)).toArray rfl (by rw [info37]; simp [Lib.byteCells_length, HL.out]) (by simp [Lib.byteCells_length, HL.out]) (all_one _) ?_) | (at_builtin; go_must (refine app rfl _ _ rfl B _ _ _ rfl (HOr.out.alloc _) _ 32 32 (Lib.byteCells (nth ds k)) rfl (by rw [Lib.byteCells_length]; exact HL.out) (by intro h; cases h) (by intro ad had; cases had; exact cells_new _ _ _ _ _ rfl rfl) (byteCells_one _) (by omega) (by simp; omega) ?_); intro v3 w3 ho3 ha3; have HO3 := Hid.mk ho3; have HA3 := Hid.mk ha3; clear ho3 ha3))
      refine ⟨⟨k + 1, by omega, by go_num, ?_, (HAr.out.alloc _).trans HA3.out⟩, by simp [intOf]; omega⟩
      have h1 := HO3.out
      rw [← take_nth, byteCells_append]
      rw [show n + (uvl m).length + (k + 1) * 32 = n + (uvl m).length + k * 32 + 32 by omega]
      simpa [List.append_assoc] using h1
    · have hlt' : ¬ (k : Int) < (m : Int) := by omega
      obtain rfl : k = m := by omega
      go_wp2_with fail
      go_ret
      exact ⟨_, rfl, by have := HOr.out; rwa [List.take_of_length_le (by rw [HD.out.len]; omega)] at this, HAr.out⟩
/-- A part of a block, by its place. -/
theorem mid {c : Array Value} {pre l post : List Value} {o : Nat} (hc : c.toList = pre ++ (l ++ post)) (ho : pre.length = o) : ∀ j u, l[j]? = some u → c[o + j]? = some u := by
  intro j u hu
  subst ho
  rw [← Array.getElem?_toList, hc, List.getElem?_append_right (by omega)]
  obtain ⟨hj, _⟩ := List.getElem?_eq_some_iff.1 hu
  rw [show pre.length + j - pre.length = j by omega, List.getElem?_append_left hj]
  exact hu

set_option maxHeartbeats 400000 in
/-- 'appendChecksum'. -/
theorem ck15 (B n x m c : Nat) (ao : Option Addr) (ds : List UInt8) (hx : x < 18446744073709551616) (hm : m ≤ 1024) (v : Value) (xs : List Value) (w : World) (hown : w.ownsRow B 5 1 v n xs) (hB : B ≤ w.heap.size) (hlim : n + 200000 ≤ 140737488355328) (hd : Dg w B ao m ds) :
    Calls Yba.prog 15 #[v, .agg #[.int .u64 x, .slice ao m c]] w fun e w' => ∃ v', e = .returned v' ∧ w'.ownsRow B 5 1 v' (n + 8 + (uvl m).length + m * 32) (xs ++ (bel x ++ (uvl m ++ Lib.byteCells ds))) ∧ Ap w v w' v' := by
  have HO := Hid.mk hown
  have HD := Hid.mk hd
  have HG := Hid.mk (own_ge hown)
  clear hown hd
  go_enter Yba.func15, Yba.ntmps15
  go_wp2_with fail
  refine (be20 B n x hx v xs _ (HO.out.alloc _) (by simp; omega) (by omega)).mono ?_
  rintro e w1 ⟨v1, rfl, ho1, ha1⟩
  have HO1 := Hid.mk ho1
  have HA1 := Hid.mk ha1
  have c1 := cell_box (Ap.box HO.out ha1) 1 (.slice ao m c) (by simp)
  have hB1 : B ≤ w1.heap.size := Nat.le_trans (by simp; omega) ha1.grown.size
  have HD1 : Hid (Dg w1 B ao m ds) := Hid.mk (HD.out.later ((((Ap.refl w v).alloc _).trans ha1).below hB HG.out) (Nat.le_refl _))
  clear ho1 ha1
  go_wp2_with fail
  refine (dig22 B _ m c ao ds hm v1 _ w1 HO1.out hB1 (by omega) HD1.out).mono ?_
  rintro e w2 ⟨v2, rfl, ho2, ha2⟩
  have HO2 := Hid.mk ho2
  have HA2 := Hid.mk (HA1.out.trans ha2)
  clear ho2 ha2
  go_wp2_with fail
  go_ret
  exact ⟨_, rfl, by simpa [List.append_assoc] using HO2.out, ((Ap.refl _ _).alloc _).trans HA2.out⟩

/-- The cells of a timestamp. -/
def tsL (x y : Nat) (tag : List UInt8) : List Value := Value.int .u64 x :: Value.int .u64 y :: Lib.byteCells tag
/-- The cells of a candidate. -/
def candL (x y : Nat) (tag non dig : List UInt8) (vec : Value) : List Value := tsL x y tag ++ (Lib.byteCells non ++ (Lib.byteCells dig ++ [vec]))
/-- Is it the zero timestamp? -/
def tz (x y : Nat) (tag : List UInt8) : Bool := x == 0 && (y == 0 && tag == List.replicate 32 0)

theorem tsL_length {x y : Nat} {tag : List UInt8} (h : tag.length = 32) : (tsL x y tag).length = 34 := by simp [tsL, Lib.byteCells_length, h]

set_option maxHeartbeats 400000 in
/-- 'appendCandidate'. -/
theorem cand24 (B n x y m c : Nat) (tag non dig ds : List UInt8) (ao : Option Addr) (hx : x < 18446744073709551616) (hy : y < 18446744073709551616) (ht : tag.length = 32) (hn : non.length = 32) (hg : dig.length = 32) (hm : m ≤ 1024) (v : Value) (xs : List Value) (w : World) (hown : w.ownsRow B 5 1 v n xs) (hB : B ≤ w.heap.size) (hlim : n + 300000 ≤ 140737488355328) (hd : Dg w B ao m ds) :
    Calls Yba.prog 24 #[v, .agg (candL x y tag non dig (.slice ao m c)).toArray] w fun e w' => ∃ v', e = .returned v' ∧ w'.ownsRow B 5 1 v' (n + 112 + (uvl m).length + m * 32) (xs ++ (bel x ++ bel y ++ Lib.byteCells tag ++ Lib.byteCells non ++ Lib.byteCells dig ++ (uvl m ++ Lib.byteCells ds))) ∧ Ap w v w' v' := by
  have HO := Hid.mk hown
  have HD := Hid.mk hd
  have HG := Hid.mk (own_ge hown)
  have HT := Hid.mk ht
  have HN := Hid.mk hn
  have HI := Hid.mk hg
  have l1 : Hid ((tsL x y tag).length = 34) := Hid.mk (tsL_length ht)
  have HB : Hid (∀ W V, Ap (w.alloc (.cells (candL x y tag non dig (.slice ao m c)).toArray 47)) v W V → (∀ j u, (tsL x y tag)[j]? = some u → W.cell? ((⟨w.heap.size, 0, none⟩ : Addr).add j) = some u) ∧ (∀ j u, (Lib.byteCells non)[j]? = some u → W.cell? ((⟨w.heap.size, 34, none⟩ : Addr).add j) = some u) ∧ (∀ j u, (Lib.byteCells dig)[j]? = some u → W.cell? ((⟨w.heap.size, 66, none⟩ : Addr).add j) = some u) ∧ W.cell? ⟨w.heap.size, 98, none⟩ = some (.slice ao m c)) := Hid.mk (by
    intro W V h
    have hb := Ap.box hown h
    refine ⟨cells_of hb (mid (pre := []) (post := Lib.byteCells non ++ (Lib.byteCells dig ++ [.slice ao m c])) (by simp [candL]) rfl), cells_of hb (mid (pre := tsL x y tag) (post := Lib.byteCells dig ++ [.slice ao m c]) (by simp [candL]) l1.out), cells_of hb (mid (pre := tsL x y tag ++ Lib.byteCells non) (post := [.slice ao m c]) (by simp [candL]) (by simp [l1.out, Lib.byteCells_length, hn])), ?_⟩
    have h2 := mid (c := (candL x y tag non dig (.slice ao m c)).toArray) (pre := tsL x y tag ++ Lib.byteCells non ++ Lib.byteCells dig) (l := [.slice ao m c]) (post := []) (o := 98) (by simp [candL]) (by simp [l1.out, Lib.byteCells_length, hn, hg]) 0 (.slice ao m c) rfl
    exact cell_box hb 98 _ h2)
  generalize hL : candL x y tag non dig (.slice ao m c) = L at HB
  clear hL hown hd ht hn hg
  go_enter Yba.func24, Yba.ntmps24
  have q0 := Hid.mk (HB.out _ _ (Ap.refl _ _)).1
  go_wp2_with (refine load_agg rfl (.tmp 6) 36 rfl Yba.isAgg36 34 Yba.sizeOf36 ⟨w.heap.size, 0, none⟩ rfl (tsL x y tag) l1.out q0.out ?_)
  refine (ts13 B n x y tag hx hy HT.out v xs _ (HO.out.alloc _) (by simp; omega) (by omega)).mono ?_
  rintro e w1 ⟨v1, rfl, ho1, ha1⟩
  have HO1 := Hid.mk ho1
  have HA1 := Hid.mk ha1
  have hB1 : B ≤ w1.heap.size := Nat.le_trans (by simp; omega) ha1.grown.size
  have q1 := Hid.mk (HB.out _ _ ha1).2.1
  clear ho1 ha1 q0
  go_wp2_with (first | (refine app rfl (.tmp 9) (.tmp 11) rfl B _ _ _ rfl HO1.out _ 32 32 (Lib.byteCells non) rfl (by rw [Lib.byteCells_length]; exact HN.out) (by intro h; cases h) (by intro ad had; cases had; exact q1.out) (byteCells_one _) (by omega) hB1 ?_; intro v2 w2 ho2 ha2; have HO2 := Hid.mk ho2; have HA2 := Hid.mk (HA1.out.trans ha2); have q2 := Hid.mk (HB.out _ _ HA2.out).2.2.1; have hB2 : B ≤ w2.heap.size := Nat.le_trans hB1 ha2.grown.size; clear ho2 ha2) | (refine app rfl (.tmp 13) (.tmp 15) rfl B _ _ _ rfl HO2.out _ 32 32 (Lib.byteCells dig) rfl (by rw [Lib.byteCells_length]; exact HI.out) (by intro h; cases h) (by intro ad had; cases had; exact q2.out) (byteCells_one _) (by omega) hB2 ?_; intro v3 w3 ho3 ha3; have HO3 := Hid.mk ho3; have HA3 := Hid.mk (HA2.out.trans ha3); have q3 := (HB.out _ _ HA3.out).2.2.2; have hB3 : B ≤ w3.heap.size := Nat.le_trans hB2 ha3.grown.size; clear ho3 ha3))
  have HD3 : Hid (Dg w3 B ao m ds) := Hid.mk (HD.out.later ((((Ap.refl w v).alloc _).trans HA3.out).below hB HG.out) (Nat.le_refl _))
  refine (dig14 B _ m c ao ds hm v3 _ w3 HO3.out hB3 (by omega) HD3.out).mono ?_
  rintro e w4 ⟨v4, rfl, ho4, ha4⟩
  have HO4 := Hid.mk ho4
  have HA4 := Hid.mk (HA3.out.trans ha4)
  clear ho4 ha4
  go_wp2_with fail
  go_ret
  exact ⟨_, rfl, by simpa [List.append_assoc, Nat.add_assoc] using HO4.out, ((Ap.refl _ _).alloc _).trans HA4.out⟩

theorem zero36 : (Yba.prog.info? 36).map (fun i => (i.zero, i.size)) = some (some (.agg (tsL 0 0 (List.replicate 32 0)).toArray), 34) := by kernel_rfl

theorem guard36 : Yba.prog.eqGuardType Yba.prog.depth 36 = false := by kernel_rfl
theorem held36 : Yba.prog.stoodInHeld 36 = false := by kernel_rfl

/-- '==' of two aggregates. -/
theorem op_eql {w : World} {ops : Array Oper} {rest : List Oper} {o : Oper} {a : Act} {Q : Exit → Act → World → Prop} (hw : Region.wanted o (yielded ops a.tmps) = true) (x y : Operand) (t : TypeId) (ho : o.op = .binOp .eql t x y t)
    (X Y : Array Value) (hx : a.eval x = .agg X) (hy : a.eval y = .agg Y) (hm : Yba.prog.eqGuardType Yba.prog.depth t = false) (b : Bool) (hb : (Op.equalIn 10000 t (.agg X) (.agg Y)).run Yba.prog w = .ok b w)
    (h : wpList Yba.prog ops Q rest (a.put o.dst (.bool b)) w) : wpList Yba.prog ops Q (o :: rest) a w := by
  refine wpList_step fun K hK => ?_
  rw [if_pos hw]
  have hg := run_eqGuard_agg (P := Yba.prog) w .eql t x y X Y hm
  have hr := run_eql_struct (P := Yba.prog) w t X Y
  rw [hb] at hr
  unfold Oper.wp execOp
  simp [ho, hx, hy, hg, hr, Result.andThen]
  exact hK _ _ h

theorem eq34 (d : Nat) (xs ys : List UInt8) (hx : xs.length = 32) (hy : ys.length = 32) (w : World) : (Op.equalIn (d + 2) 34 (.agg (Lib.byteCells xs).toArray) (.agg (Lib.byteCells ys).toArray)).run Yba.prog w = .ok (xs == ys) w :=
  run_equalIn_bytes w d 34 5 32 Yba.underlying34 Yba.underlying5 Yba.sizeOf5 xs ys hx hy
theorem eq24 (d : Nat) (xs ys : List UInt8) (hx : xs.length = 32) (hy : ys.length = 32) (w : World) : (Op.equalIn (d + 2) 24 (.agg (Lib.byteCells xs).toArray) (.agg (Lib.byteCells ys).toArray)).run Yba.prog w = .ok (xs == ys) w :=
  run_equalIn_bytes w d 24 5 32 Yba.underlying24 Yba.underlying5 Yba.sizeOf5 xs ys hx hy

theorem eq36 (x y : Nat) (tag : List UInt8) (ht : tag.length = 32) (w : World) : (Op.equalIn 10000 36 (.agg (tsL x y tag).toArray) (.agg (tsL 0 0 (List.replicate 32 0)).toArray)).run Yba.prog w = .ok (tz x y tag) w := by
  have hf : Yba.prog.fieldsOf 36 = #[{ name := "Number", type := 23, offset := 0, embedded := false, tag := "", pkgPath := "", byteOffset := 0 }, { name := "Writer", type := 23, offset := 1, embedded := false, tag := "", pkgPath := "", byteOffset := 8 }, { name := "Tag", type := 34, offset := 2, embedded := false, tag := "", pkgPath := "", byteOffset := 16 }] := by kernel_rfl
  have hu : Yba.prog.underlying 36 = some (.struct (Yba.prog.fieldsOf 36)) := by kernel_rfl
  have p0 : ∀ (a b : Nat) (l : List UInt8) w, (part 23 (tsL a b l).toArray 0).run Yba.prog w = .ok (.int .u64 a) w := by intro a b l w; simp [part, Yba.isAgg23, tsL]
  have p1 : ∀ (a b : Nat) (l : List UInt8) w, (part 23 (tsL a b l).toArray 1).run Yba.prog w = .ok (.int .u64 b) w := by intro a b l w; simp [part, Yba.isAgg23, tsL]
  have p2 : ∀ (a b : Nat) (l : List UInt8) w, l.length = 32 → (part 34 (tsL a b l).toArray 2).run Yba.prog w = .ok (.agg (Lib.byteCells l).toArray) w := by
    intro a b l w hl
    have e : List.take 32 (List.drop 2 (tsL a b l)) = Lib.byteCells l := by
      simp only [tsL, List.drop_succ_cons, List.drop_zero]
      exact List.take_of_length_le (by rw [Lib.byteCells_length, hl]; omega)
    simp [part, Yba.isAgg34, Yba.sizeOf34, e]
  have i1 : ∀ (d : Nat) (a b : Int) w, (Op.equalIn (d + 1) 23 (.int .u64 a) (.int .u64 b)).run Yba.prog w = .ok (a == b) w := fun d a b w => run_equalIn_int w d 23 .u64 .u64 a b Yba.underlying23
  rw [run_equalIn_struct w 9999 36 _ _ hu held36, hf]
  have e34 := eq34 9997 tag (List.replicate 32 0) ht (by simp) w
  simp only [Op.eqFields, p0, p1, p2 _ _ _ _ ht, p2 _ _ (List.replicate 32 0) _ (by simp), i1, e34, Sem.run_bind, Result.andThen_ok, Sem.run_ite, Sem.run_pure]
  unfold tz
  generalize (tag == List.replicate 32 0) = b
  cases b <;> by_cases h1 : x = 0 <;> by_cases h2 : y = 0 <;> simp [h1, h2]

set_option maxHeartbeats 400000 in
/-- 'IsZero'. -/
theorem zero23 (x y : Nat) (tag : List UInt8) (ht : tag.length = 32) (w : World) :
    Calls Yba.prog 23 #[.agg (tsL x y tag).toArray] w fun e w' => e = .returned (.bool (tz x y tag)) ∧ w' = w.alloc (.cells (tsL x y tag).toArray 36) := by
  have hq := Hid.mk (eq36 x y tag ht)
  have hl := Hid.mk (tsL_length (x := x) (y := y) ht)
  have hc := Hid.mk (cells_new w (tsL x y tag).toArray 36 w.heap.size (tsL x y tag) rfl rfl)
  clear ht
  generalize hL : tsL x y tag = L at hq hl hc
  go_enter Yba.func23, Yba.ntmps23
  go_wp2_with (first | (refine load_agg rfl (.tmp 1) 36 rfl Yba.isAgg36 34 Yba.sizeOf36 ⟨w.heap.size, 0, none⟩ rfl L hl.out hc.out ?_) | (refine op_eql rfl (.tmp 3) (.tmp 4) 36 rfl L.toArray _ rfl rfl guard36 _ (hq.out _) ?_))
  go_ret
  exact ⟨rfl, rfl⟩
/-- What 'appendOptionalCandidate' appends. -/
def optL (x y : Nat) (tag non dig : List UInt8) (m : Nat) (ds : List UInt8) : List Value :=
  if tz x y tag then [.int .u8 0] else .int .u8 1 :: (bel x ++ bel y ++ Lib.byteCells tag ++ Lib.byteCells non ++ Lib.byteCells dig ++ (uvl m ++ Lib.byteCells ds))

theorem candL_length {x y : Nat} {tag non dig : List UInt8} {vec : Value} (ht : tag.length = 32) (hn : non.length = 32) (hg : dig.length = 32) : (candL x y tag non dig vec).length = 99 := by
  simp [candL, tsL_length ht, Lib.byteCells_length, hn, hg]

/-- 'append' as one step of a region that draws. -/
theorem wp_app {w : World} {o : Oper} {a : Act} {K : Act → World → Prop} {Q : Exit → Act → World → Prop} (s x : Operand)
    (ho : o.op = .call { callee := .builtin .append, args := #[s, x], argTypes := #[22, 22] })
    (B : Nat) (v : Value) (n : Nat) (xs : List Value) (hs : a.eval s = v) (hown : w.ownsRow B 5 1 v n xs)
    (ao : Option Addr) (m c : Nat) (news : List Value) (hx : a.eval x = .slice ao m c) (hl : news.length = m) (hnone : ao = none → m = 0 ∧ c = 0) (hnews : ∀ ad, ao = some ad → ∀ j u, news[j]? = some u → w.cell? (ad.add j) = some u) (h1 : ∀ u ∈ news, u.oneCell' = true)
    (hlim : n + m ≤ 140737488355328) (hbase : B ≤ w.heap.size)
    (h : ∀ v' w', w'.ownsRow B 5 1 v' (n + m) (xs ++ news) → Ap w v w' v' → K (a.put o.dst v') w') : o.wp Yba.prog a w K Q := by
  obtain ⟨i, hi, hz0, hz1, hz2⟩ := info_parts info5
  cases ao with
  | some ad =>
    obtain ⟨v', w', hr, h2, h3, h4, h5⟩ := run_append_own_at (P := Yba.prog) w B 22 o.type 5 i (.int .u8 0) 1 1 Yba.underlying22 hi hz0 hz1 hz2 rfl (by omega) v n xs hown ad m c news (by simpa using hl) (hnews ad rfl) h1 (by unfold maxLen; omega) (by omega) hbase
    have hA : Ap w v w' v' := ⟨h3, by
      rcases h5 with h5 | h5
      · exact .inl h5
      · exact .inr fun k hk => by rw [h5] at hk; cases hk; exact Nat.le_refl _⟩
    unfold Oper.wp execOp
    simp only [ho, resolve, invoke, builtin, Sem.run_bind, Sem.run_pure, Result.andThen_ok, List.map_toArray, List.map_cons, List.map_nil, hs, hx, hr]
    exact h v' w' h2 hA
  | none =>
    obtain ⟨rfl, rfl⟩ := hnone rfl
    have hnn : news = [] := List.eq_nil_of_length_eq_zero hl
    subst hnn
    have hrun := run_append_owned_none (P := Yba.prog) w B 22 o.type 5 i 1 Yba.underlying22 hi _ n xs hown
    unfold Oper.wp
    simp [execOp, ho, resolve, invoke, builtin, hs, hx, hrun, Result.andThen]
    exact h v w (by simpa using hown) (Ap.refl _ _)

theorem Ap.drew {a b : World} {u v : Value} (h : Ap a u b v) : Ap a u b.drew v := h.trans ⟨⟨rfl, rfl, rfl, by simp, fun k hk _ => rfl⟩, .inl rfl⟩

theorem info47 : (Yba.prog.info? 47).map (·.size) = some 99 := by kernel_rfl

set_option maxHeartbeats 1000000 in
/-- 'appendOptionalCandidate'. -/
theorem opt16 (B n x y m c : Nat) (tag non dig ds : List UInt8) (ao : Option Addr) (hx : x < 18446744073709551616) (hy : y < 18446744073709551616) (ht : tag.length = 32) (hn : non.length = 32) (hg : dig.length = 32) (hm : m ≤ 1024) (v : Value) (xs : List Value) (w : World) (hown : w.ownsRow B 5 1 v n xs) (hB : B ≤ w.heap.size) (hlim : n + 400000 ≤ 140737488355328) (hd : Dg w B ao m ds) :
    Calls Yba.prog 16 #[v, .agg (candL x y tag non dig (.slice ao m c)).toArray] w fun e w' => ∃ v', e = .returned v' ∧ w'.ownsRow B 5 1 v' (n + (optL x y tag non dig m ds).length) (xs ++ optL x y tag non dig m ds) ∧ Ap w v w' v' := by
  have HO := Hid.mk hown
  have HD := Hid.mk hd
  have HG := Hid.mk (own_ge hown)
  have l1 : Hid ((tsL x y tag).length = 34) := Hid.mk (tsL_length ht)
  have l2 : Hid ((candL x y tag non dig (.slice ao m c)).length = 99) := Hid.mk (candL_length ht hn hg)
  have HZ := Hid.mk (zero23 x y tag ht)
  have HC := Hid.mk (fun n hlim v xs W ho hB hd => cand24 B n x y m c tag non dig ds ao hx hy ht hn hg hm v xs W ho hB hlim hd)
  have HB : Hid (∀ W V, Ap (w.alloc (.cells (candL x y tag non dig (.slice ao m c)).toArray 47)) v W V → (∀ j u, (tsL x y tag)[j]? = some u → W.cell? ((⟨w.heap.size, 0, none⟩ : Addr).add j) = some u) ∧ (∀ j u, (candL x y tag non dig (.slice ao m c))[j]? = some u → W.cell? ((⟨w.heap.size, 0, none⟩ : Addr).add j) = some u)) := Hid.mk (by
    intro W V h
    have hb := Ap.box hown h
    exact ⟨cells_of hb (mid (pre := []) (post := Lib.byteCells non ++ (Lib.byteCells dig ++ [.slice ao m c])) (by simp [candL]) rfl), cells_of hb (mid (pre := []) (post := []) (by simp) rfl)⟩)
  have hol : Hid (tz x y tag = false → (optL x y tag non dig m ds).length = 1 + (112 + (uvl m).length + m * 32)) := Hid.mk (by
    intro h
    simp [optL, h, bel, Lib.byteCells_length, ht, hn, hg, hd.len]
    omega)
  have hoz : Hid (tz x y tag = true → optL x y tag non dig m ds = [.int .u8 0]) := Hid.mk (by intro h; simp [optL, h])
  have hof : Hid (tz x y tag = false → optL x y tag non dig m ds = .int .u8 1 :: (bel x ++ bel y ++ Lib.byteCells tag ++ Lib.byteCells non ++ Lib.byteCells dig ++ (uvl m ++ Lib.byteCells ds))) := Hid.mk (by intro h; simp [optL, h])
  have q0 := Hid.mk (HB.out _ _ (Ap.refl _ _)).1
  generalize hL : candL x y tag non dig (.slice ao m c) = L at HB HC l2 q0
  generalize hZ : tz x y tag = z at HZ hol hoz hof
  generalize optL x y tag non dig m ds = O at hol hoz hof
  clear hL hZ hown hd ht hn hg
  go_enter Yba.func16, Yba.ntmps16
  go_wp2_with (refine load_agg rfl (.tmp 5) 36 rfl Yba.isAgg36 34 Yba.sizeOf36 ⟨w.heap.size, 0, none⟩ rfl (tsL x y tag) l1.out q0.out ?_)
  refine (HZ.out _).mono ?_
  rintro e w1 ⟨rfl, rfl⟩
  cases z with
  | true =>
    go_wp2_with (at_builtin; go_must (refine app rfl _ _ rfl B _ n _ rfl (((HO.out.alloc _).alloc _).alloc _) _ 1 1 _ rfl rfl (by intro h; cases h) (by intro ad had; cases had; exact cells_new _ _ _ _ _ (by simp) rfl) (by simp [Value.oneCell']) (by omega) (by simp; omega) ?_); intro v1 w1 ho1 ha1; have HO1 := Hid.mk ho1; have HA1 := Hid.mk ha1; clear ho1 ha1)
    go_ret
    rw [hoz.out (by simp)]
    exact ⟨_, rfl, by simpa using HO1.out, ((((Ap.refl _ _).alloc _).alloc _).alloc _).trans HA1.out⟩
  | false =>
    go_wp2_with fail
    refine wp_region_held_drew (S := fun w' => w'.heap[w.heap.size]? = some (.cells L.toArray 47 (0, 0))) (by kernel_rfl) ?_ (fun hHeld => ?_)
    · have h1 : ((w.alloc (.cells L.toArray 47)).alloc (.cells (tsL x y tag).toArray 36)).heap[w.heap.size]? = some (.cells L.toArray 47 (0, 0)) := by
        rw [heap_alloc_old _ _ (by simp)]
        exact heap_alloc_new _ _
      exact h1
    refine wpAnyH_take (i := 0) (v := v) rfl (by kernel_rfl) (by kernel_rfl) (by kernel_rfl) (fun _ _ _ h => h) (Or.inl ⟨by rfl, fun W hW => by rfl⟩) (by assumption) ?_
    try simp only [Act.put, List.setIfInBounds_toArray, List.set_cons_zero, List.set_cons_succ]
    refine wpAnyH_take (i := 3) (v := .agg L.toArray) rfl (by kernel_rfl) (by kernel_rfl) (by kernel_rfl) (fun _ _ _ h => h) (yieldsIf_load_mid (by rfl) 47 (.tmp 3) rfl w.heap.size 0 rfl L _ (fun W hW j u hu => by rw [Nat.zero_add]; exact cell_box hW j u (by simpa using hu)) Yba.underlying47 rfl (by rw [info47, l2.out])) (by assumption) ?_
    try simp only [Act.put, List.setIfInBounds_toArray, List.set_cons_zero, List.set_cons_succ]
    refine wpAnyH_ready (rs := [1]) (by kernel_rfl) (by simp) (AllReadyH.cons rfl (fun K hK => ?_) AllReadyH.nil)
    go_simp
    refine hK.out _ _ ?_ (fun hHeld => ?_)
    · exact (heap_alloc_old ((w.alloc (.cells L.toArray 47)).alloc (.cells (tsL x y tag).toArray 36)) _ (by simp; omega)).trans hHeld
    clear hK K
    have HA0 := Hid.mk (((Ap.refl (w.alloc (.cells L.toArray 47)) v).alloc (.cells (tsL x y tag).toArray 36)).alloc (.cells #[.int .u8 1] 5)).drew
    refine wpAnyH_ready (rs := [2]) (by kernel_rfl) (by simp) (AllReadyH.cons rfl (fun K hK => ?_) AllReadyH.nil)
    rw [if_pos (by rfl)]
    refine wp_app (.tmp 11) (.tmp 12) rfl B v n xs rfl (((HO.out.alloc _).alloc _).alloc _).drew _ 1 1 [.int .u8 1] rfl rfl (by intro h; cases h) (by intro ad had; cases had; exact cells_new _ _ _ _ _ (by simp) rfl) (by simp [Value.oneCell']) (by omega) (by simp; omega) ?_
    intro v1 w1 ho1 ha1
    have HO1 := Hid.mk ho1
    have HA1 := Hid.mk (HA0.out.trans ha1)
    have hB1 : B ≤ w1.heap.size := Nat.le_trans (by simp; omega) HA1.out.grown.size
    clear ho1 ha1 HA0
    refine hK.out _ _ ?_ (fun hHeld => ?_)
    · exact Ap.box HO.out HA1.out
    clear hK K
    try simp only [Act.put, List.setIfInBounds_toArray, List.set_cons_zero, List.set_cons_succ]
    refine wpAnyH_ready (rs := [4]) (by kernel_rfl) (by simp) (AllReadyH.cons rfl (fun K hK => ?_) AllReadyH.nil)
    go_simp
    have HD1 : Hid (Dg w1 B ao m ds) := Hid.mk (HD.out.later ((((Ap.refl w v).alloc _).trans HA1.out).below hB HG.out) (Nat.le_refl _))
    refine (HC.out (n + 1) (by omega) v1 _ w1 HO1.out hB1 HD1.out).mono ?_
    rintro e w2 ⟨v2, rfl, ho2, ha2⟩
    have HO2 := Hid.mk ho2
    have HA2 := Hid.mk (HA1.out.trans ha2)
    clear ho2 ha2
    try simp only []
    refine hK.out _ _ ?_ (fun hHeld => ?_)
    · exact Ap.box HO.out HA2.out
    clear hK K
    try simp only [Act.put, List.setIfInBounds_toArray, List.set_cons_zero, List.set_cons_succ]
    refine wpAnyH_ready (rs := [5]) (by kernel_rfl) (by simp) (AllReadyH.cons rfl (fun K hK => ?_) AllReadyH.nil)
    go_simp
    refine hK.out _ _ hHeld (fun hHeld => ?_)
    clear hK K
    refine wpAnyH_done (by kernel_rfl) ?_ _
    go_wp2
    go_ret
    refine ⟨_, rfl, ?_, ((Ap.refl _ _).alloc _).trans HA2.out⟩
    rw [hol.out (by simp), hof.out (by simp)]
    have h := HO2.out
    rw [show n + 1 + 112 + (uvl m).length + m * 32 = n + (1 + (112 + (uvl m).length + m * 32)) by omega] at h
    simpa [List.append_assoc] using h
end Go.Proofs.Ybulkoxq
