import Derived.Test.YbulkojqFmtWalks2
set_option linter.unusedVariables false
namespace Go.Proofs.YbulkojqFmt
open Go.RowKit Go.Extern.Stop Go.Stop Go.Extern

/-- 'append(v, xs...)' onto a slice that the call owns, whatever the shape of what is appended (nil too). -/
theorem wpList_append_own_any {P : Program} {w : World} {ops : Array Oper} {rest : List Oper} {o : Oper} {a : Act} {Q : Exit → Act → World → Prop} (hgd : o.guard = none) (s x : Operand) (t : TypeId)
    (ho : o.op = .call { callee := .builtin .append, args := #[s, x], argTypes := #[t, t] })
    (base : Nat) (e : TypeId) (i : TypeInfo) (z : Value) (size bytes : Nat) (ht : P.underlying t = some (.slice e)) (hi : P.info? e = some i) (hz : i.zero = some z)
    (hsize : i.size = size) (hby : i.bytes = bytes) (hzs : z.cells.size = size) (hsz : 0 < size)
    (v : Value) (n : Nat) (xs : List Value) (hs : a.eval s = v) (hown : w.ownsRow base e size v n xs)
    (ao : Option Addr) (m c : Nat) (news : List Value) (hx : a.eval x = .slice ao m c) (hl : news.length = m * size) (hnone : ao = none → m = 0 ∧ c = 0) (hnews : ∀ ad, ao = some ad → ∀ j u, news[j]? = some u → w.cell? (ad.add j) = some u) (h1 : ∀ u ∈ news, u.oneCell' = true)
    (h63 : n + m ≤ maxLen) (hbytes : (n + m) * bytes ≤ 140737488355328) (hbase : base ≤ w.heap.size)
    (h : ∀ v' w', w'.ownsRow base e size v' (n + m) (xs ++ news) → w.grownBy w' v.ownBlock → wpList P ops Q rest (a.put o.dst v') w') : wpList P ops Q (o :: rest) a w := by
  cases ao with
  | some ad => exact wpList_append_own w hgd s x t ho base e i z size bytes ht hi hz hsize hby hzs hsz v n xs hs hown ad m c news hx hl (hnews ad rfl) h1 h63 hbytes hbase fun v' w' h2 h3 _ => h v' w' h2 h3
  | none =>
    obtain ⟨rfl, rfl⟩ := hnone rfl
    have hnn : news = [] := List.eq_nil_of_length_eq_zero (by simpa using hl)
    subst hnn
    refine wpList_plain hgd fun K hK' => ?_
    have hrun := run_append_owned_none (P := P) w base t o.type e i size ht hi _ n xs hown
    unfold Oper.wp
    simp [execOp, ho, resolve, invoke, builtin, hs, hx, hrun, Result.andThen]
    exact hK' _ _ (by simpa using h v w (by simpa using hown) (World.grownBy.refl _ _))

theorem info5 : (Ybaf.prog.info? 5).map (fun i => (i.zero, i.size, i.bytes)) = some (some (.int .u8 0), 1, 1) := by kernel_rfl

theorem bytes_one (l : List UInt8) : ∀ u ∈ Lib.byteCells l, u.oneCell' = true := by
  intro u hu
  obtain ⟨_, _, rfl⟩ := List.mem_map.1 hu
  rfl

theorem ownBlock_ge {w : World} {B n : Nat} {v : Value} {xs : List Value} (h : w.ownsRow B 5 1 v n xs) : ∀ k, v.ownBlock = some k → B ≤ k := by
  intro k hk
  rcases h.2 with ⟨rfl, _⟩ | ⟨g, cap, cur, rfl, hg, _⟩
  · cases hk
  · simp [Value.ownBlock] at hk
    omega

/-- What an owned row of bytes is, where it is not empty. -/
theorem owns_shape {w : World} {B n : Nat} {v : Value} {xs : List Value} (h : w.ownsRow B 5 1 v n xs) (hn : 0 < n) :
    ∃ g cap, v = .slice (some ⟨g, 0, none⟩) n cap ∧ n ≤ cap ∧ cap ≤ maxLen ∧ ∀ j u, xs[j]? = some u → w.cell? ⟨g, 0 + j, none⟩ = some u := by
  obtain ⟨hl, ⟨rfl, rfl⟩ | ⟨g, cap, cur, rfl, hg, hh, hnc, hm, hcs, htk⟩⟩ := h
  · omega
  refine ⟨g, cap, rfl, hnc, hm, fun j u hu => ?_⟩
  rw [← htk] at hu
  obtain ⟨hj, hu'⟩ := List.getElem?_eq_some_iff.1 hu
  have hj' : j < cur.size := by simp at hj; omega
  have e : cur[j]? = some u := by
    rw [Array.getElem?_eq_getElem hj']
    simpa using hu'
  simp [World.cell?, hh, e]

theorem byteCells_at (l : List UInt8) (j : Nat) (hj : j < l.length) : (Lib.byteCells l)[j]? = some (.int .u8 (l[j]).toNat) := by
  simp [Lib.byteCells, hj]

theorem ret_true {b : Bool} (h : b = true) : Ending.returned (.bool b) = .returned (.bool true) := by rw [h]

theorem Hid.mk {p : Prop} (h : p) : Hid p := h

/-- The slice 'ao, n, c' reads as the bytes l. -/
structure Src8 (w : World) (ao : Option Addr) (n c : Nat) (l : List UInt8) : Prop where
  len : l.length = n
  cap : n ≤ c
  max : c ≤ maxLen
  none : ao = none → n = 0 ∧ c = 0
  cell : ∀ ad, ao = some ad → ∀ j u, (Lib.byteCells l)[j]? = some u → w.cell? (ad.add j) = some u

set_option maxHeartbeats 400000 in
theorem rt_big1 (v1 v2 v3 : Value) (ao : Option Addr) (n c : Nat) (w : World) (hn : 1024 < n) :
    Calls Ybaf.prog 3 #[.slice ao n c, v1, v2, v3] w fun e w' => e = .returned (.bool true) ∧ w' = w := by
  go_enter Ybaf.func3, Ybaf.ntmps3
  go_wp2
  go_ret
  exact ⟨rfl, rfl⟩

set_option maxHeartbeats 400000 in
theorem rt_big2 (v1 v2 : Value) (ao bo : Option Addr) (n c m d : Nat) (w : World) (hn : n ≤ 1024) (hm : 1024 < m) :
    Calls Ybaf.prog 3 #[.slice ao n c, v1, v2, .slice bo m d] w fun e w' => e = .returned (.bool true) ∧ w' = w := by
  go_enter Ybaf.func3, Ybaf.ntmps3
  go_wp2
  go_ret
  exact ⟨rfl, rfl⟩

set_option maxHeartbeats 800000 in
theorem rt_ge (F : Interp) (pa ta : Option Addr) (pn pc tn tc : Nat) (p t : List UInt8) (gap : Nat) (seq : Int) (w : World) (hF : F.answers w.tape)
    (hp : Src8 w pa pn pc p) (ht : Src8 w ta tn tc t) (hpn : pn ≤ 1024) (htn : tn ≤ 1024) (hg : gap < 18446744073709551616) (hs0 : 0 ≤ seq) (hs1 : seq < 18446744073709551616) (hgs : seq ≤ gap) :
    Calls Ybaf.prog 3 #[.slice pa pn pc, .int .u64 gap, .int .u64 seq, .slice ta tn tc] w fun e w' => e = .returned (.bool true) ∧ Below w.heap.size w w' := by
  obtain ⟨i, hi, hz0, hz1, hz2⟩ := info_parts info5
  have HF : Hid (F.answers w.tape) := hF
  have HP : Hid (Src8 w pa pn pc p) := hp
  have HT : Hid (Src8 w ta tn tc t) := ht
  have hL1 := Lib.uvarint_pos gap
  have hL2 := Lib.uvarint_length64 hg
  have HD := dec_uvarint gap hg t
  have HU : Hid (∀ W : World, ∀ sv, W.ownsRow w.heap.size 5 1 sv pn (Lib.byteCells p) → w.heap.size ≤ W.heap.size → Calls Ybaf.prog 5 #[sv, .int .u64 gap] W fun e w' => ∃ v', e = .returned v' ∧ w'.ownsRow w.heap.size 5 1 v' (pn + (Lib.uvarint gap).length) (Lib.byteCells p ++ Lib.byteCells (Lib.uvarint gap)) ∧ Below w.heap.size W w') :=
    fun W sv h1 h2 => Ybaf.binary_AppendUvarint w.heap.size pn gap hg sv (Lib.byteCells p) W h1 h2 (by omega)
  have HG : Hid (gap < 18446744073709551616) := hg
  generalize hU : Lib.uvarint gap = U at hL1 hL2 HD HU
  generalize hL : U.length = L at hL1 hL2 HD HU
  have HL : Hid (U.length = L) := hL
  have HDD : Hid (dec (U ++ t) = some (gap, L)) := HD
  clear hF hp ht hU hL HD
  go_enter Ybaf.func3, Ybaf.ntmps3
  go_wp2_with (at_make; refine wpList_make_own _ rfl _ _ 22 rfl w.heap.size 5 i (.int .u8 0) 1 Ybaf.underlying22 hi hz0 hz1 _ _ _ (pn + 10 + tn) rfl rfl (by omega) (by rw [hz2]; omega) (by unfold maxLen; omega) (Nat.le_refl _) ?_)
  intro w1 hown1 hgr1
  have O1 : Hid (w1.ownsRow w.heap.size 5 1 (.slice (some ⟨w.heap.size, 0, none⟩) 0 (pn + 10 + tn)) 0 []) := hown1
  have B1 : Hid (Below w.heap.size w w1) := (Below.refl _ w).grown hgr1 (Nat.le_refl _) (fun k hk => by cases hk)
  clear hown1 hgr1
  go_wp2_with (at_builtin; go_must (refine wpList_append_own_any rfl _ _ 22 rfl w.heap.size 5 i (.int .u8 0) 1 1 Ybaf.underlying22 hi hz0 hz1 hz2 rfl (by omega) _ 0 [] rfl O1.out pa pn pc (Lib.byteCells p) rfl (by rw [Lib.byteCells_length, HP.out.len]; omega) HP.out.none (fun ad had j u hu => cell_later B1.out (HP.out.cell ad had j u hu)) (bytes_one _) (by unfold maxLen; omega) (by omega) B1.out.size ?_))
  intro v2 w2 hown2 hgr2
  have B2 : Hid (Below w.heap.size w w2) := B1.out.grown hgr2 B1.out.size (ownBlock_ge O1.out)
  have O2 : Hid (w2.ownsRow w.heap.size 5 1 v2 pn (Lib.byteCells p)) := Hid.mk (by simpa using hown2)
  clear hown2 hgr2 O1 B1
  go_wp2_with (first | (go_at_call 5; go_must (refine (HU.out _ _ O2.out B2.out.size).mono ?_); rintro e w3 ⟨v3, rfl, hown3, hb3⟩; obtain ⟨g3, cap3, rfl, hc3, hm3, _⟩ := owns_shape hown3 (by omega); have O3 := Hid.mk hown3; have B3 := Hid.mk (B2.out.trans hb3); clear hown3 hb3 O2 B2) | (at_builtin; go_must (refine wpList_append_own_any rfl _ _ 22 rfl w.heap.size 5 i (.int .u8 0) 1 1 Ybaf.underlying22 hi hz0 hz1 hz2 rfl (by omega) _ (pn + L) _ rfl O3.out ta tn tc (Lib.byteCells t) rfl (by rw [Lib.byteCells_length, HT.out.len]; omega) HT.out.none (fun ad had j u hu => cell_later B3.out (HT.out.cell ad had j u hu)) (bytes_one _) (by unfold maxLen; omega) (by omega) B3.out.size ?_)))
  intro v4 w4 hown4 hgr4
  have B4 : Hid (Below w.heap.size w w4) := B3.out.grown hgr4 B3.out.size (ownBlock_ge O3.out)
  obtain ⟨g4, cap4, rfl, hc4, hm4, hcell4⟩ := owns_shape hown4 (by omega)
  have C4 : Hid (∀ j (hj : j < (p ++ (U ++ t)).length), w4.cell? ⟨g4, 0 + j, none⟩ = some (.int .u8 ((p ++ (U ++ t))[j]).toNat)) := Hid.mk (by
    intro j hj
    refine hcell4 j _ ?_
    rw [← byteCells_at _ j hj]
    simp [Lib.byteCells])
  have hlen : Hid ((p ++ (U ++ t)).length = pn + L + tn) := Hid.mk (by
    have h1 := HP.out.len
    have h2 := HT.out.len
    have h3 := HL.out
    simp
    omega)
  have hdrop : Hid (dec ((p ++ (U ++ t)).drop pn) = some (gap, L)) := Hid.mk (by
    rw [List.drop_append_of_le_length (by rw [HP.out.len]; omega), List.drop_of_length_le (by rw [HP.out.len]; omega)]
    simpa using HDD.out)
  clear hown4 hgr4 O3 B3 hcell4
  have hA : Lies w4 (some ⟨g4, 0, none⟩) cap4 pn (p ++ (U ++ t)) := fun _ => ⟨g4, 0, rfl, C4.out⟩
  have HR : Hid (Calls Ybaf.prog 6 #[.pointer (some ⟨w4.heap.size, 0, none⟩), .int .u64 seq] (decAt w4 (some ⟨g4, 0, none⟩) (pn + L + tn) cap4 pn) fun e w' => ∃ eb, e = .returned (.tuple #[.int .u64 0, .iface 43 (.pointer (some ⟨eb, 0, none⟩))]) ∧ w'.cell? ⟨eb, 0, none⟩ = some (.int .i64 pn) ∧ Below w4.heap.size w4 w') :=
    rd_big F pn (pn + L + tn) cap4 _ (p ++ (U ++ t)) seq gap L w4 (by rw [B4.out.tape]; exact HF.out) (by omega) hc4 hm4 hlen.out hA hdrop.out hgs
  clear hA
  go_wp2_with (first | (go_at_call 6; go_must (refine HR.out.mono ?_); rintro e w5 ⟨eb, rfl, hce, hb5⟩; have B5 := Hid.mk (B4.out.trans (hb5.mono B4.out.size)); clear hb5) | (go_at_call 7; go_must (refine (offis_any _ _ _ _ hce).mono ?_); rintro e w6 ⟨rfl, rfl⟩))
  go_ret
  exact ⟨by simp, B5.out⟩

set_option maxHeartbeats 800000 in
theorem rt_lt (F : Interp) (pa ta : Option Addr) (pn pc tn tc : Nat) (p t : List UInt8) (gap : Nat) (seq : Int) (w : World) (hF : F.answers w.tape)
    (hp : Src8 w pa pn pc p) (ht : Src8 w ta tn tc t) (hpn : pn ≤ 1024) (htn : tn ≤ 1024) (hg : gap < 18446744073709551616) (hs0 : 0 ≤ seq) (hs1 : seq < 18446744073709551616) (hgs : (gap : Int) < seq) :
    Calls Ybaf.prog 3 #[.slice pa pn pc, .int .u64 gap, .int .u64 seq, .slice ta tn tc] w fun e w' => e = .returned (.bool true) ∧ Below w.heap.size w w' := by
  obtain ⟨i, hi, hz0, hz1, hz2⟩ := info_parts info5
  have HF : Hid (F.answers w.tape) := hF
  have HP : Hid (Src8 w pa pn pc p) := hp
  have HT : Hid (Src8 w ta tn tc t) := ht
  have hL1 := Lib.uvarint_pos gap
  have hL2 := Lib.uvarint_length64 hg
  have HD := dec_uvarint gap hg t
  have HU : Hid (∀ W : World, ∀ sv, W.ownsRow w.heap.size 5 1 sv pn (Lib.byteCells p) → w.heap.size ≤ W.heap.size → Calls Ybaf.prog 5 #[sv, .int .u64 gap] W fun e w' => ∃ v', e = .returned v' ∧ w'.ownsRow w.heap.size 5 1 v' (pn + (Lib.uvarint gap).length) (Lib.byteCells p ++ Lib.byteCells (Lib.uvarint gap)) ∧ Below w.heap.size W w') :=
    fun W sv h1 h2 => Ybaf.binary_AppendUvarint w.heap.size pn gap hg sv (Lib.byteCells p) W h1 h2 (by omega)
  have HG : Hid (gap < 18446744073709551616) := hg
  generalize hU : Lib.uvarint gap = U at hL1 hL2 HD HU
  generalize hL : U.length = L at hL1 hL2 HD HU
  have HL : Hid (U.length = L) := hL
  have HDD : Hid (dec (U ++ t) = some (gap, L)) := HD
  clear hF hp ht hU hL HD
  go_enter Ybaf.func3, Ybaf.ntmps3
  go_wp2_with (at_make; refine wpList_make_own _ rfl _ _ 22 rfl w.heap.size 5 i (.int .u8 0) 1 Ybaf.underlying22 hi hz0 hz1 _ _ _ (pn + 10 + tn) rfl rfl (by omega) (by rw [hz2]; omega) (by unfold maxLen; omega) (Nat.le_refl _) ?_)
  intro w1 hown1 hgr1
  have O1 : Hid (w1.ownsRow w.heap.size 5 1 (.slice (some ⟨w.heap.size, 0, none⟩) 0 (pn + 10 + tn)) 0 []) := hown1
  have B1 : Hid (Below w.heap.size w w1) := (Below.refl _ w).grown hgr1 (Nat.le_refl _) (fun k hk => by cases hk)
  clear hown1 hgr1
  go_wp2_with (at_builtin; go_must (refine wpList_append_own_any rfl _ _ 22 rfl w.heap.size 5 i (.int .u8 0) 1 1 Ybaf.underlying22 hi hz0 hz1 hz2 rfl (by omega) _ 0 [] rfl O1.out pa pn pc (Lib.byteCells p) rfl (by rw [Lib.byteCells_length, HP.out.len]; omega) HP.out.none (fun ad had j u hu => cell_later B1.out (HP.out.cell ad had j u hu)) (bytes_one _) (by unfold maxLen; omega) (by omega) B1.out.size ?_))
  intro v2 w2 hown2 hgr2
  have B2 : Hid (Below w.heap.size w w2) := B1.out.grown hgr2 B1.out.size (ownBlock_ge O1.out)
  have O2 : Hid (w2.ownsRow w.heap.size 5 1 v2 pn (Lib.byteCells p)) := Hid.mk (by simpa using hown2)
  clear hown2 hgr2 O1 B1
  go_wp2_with (first | (go_at_call 5; go_must (refine (HU.out _ _ O2.out B2.out.size).mono ?_); rintro e w3 ⟨v3, rfl, hown3, hb3⟩; obtain ⟨g3, cap3, rfl, hc3, hm3, _⟩ := owns_shape hown3 (by omega); have O3 := Hid.mk hown3; have B3 := Hid.mk (B2.out.trans hb3); clear hown3 hb3 O2 B2) | (at_builtin; go_must (refine wpList_append_own_any rfl _ _ 22 rfl w.heap.size 5 i (.int .u8 0) 1 1 Ybaf.underlying22 hi hz0 hz1 hz2 rfl (by omega) _ (pn + L) _ rfl O3.out ta tn tc (Lib.byteCells t) rfl (by rw [Lib.byteCells_length, HT.out.len]; omega) HT.out.none (fun ad had j u hu => cell_later B3.out (HT.out.cell ad had j u hu)) (bytes_one _) (by unfold maxLen; omega) (by omega) B3.out.size ?_)))
  intro v4 w4 hown4 hgr4
  have B4 : Hid (Below w.heap.size w w4) := B3.out.grown hgr4 B3.out.size (ownBlock_ge O3.out)
  obtain ⟨g4, cap4, rfl, hc4, hm4, hcell4⟩ := owns_shape hown4 (by omega)
  have C4 : Hid (∀ j (hj : j < (p ++ (U ++ t)).length), w4.cell? ⟨g4, 0 + j, none⟩ = some (.int .u8 ((p ++ (U ++ t))[j]).toNat)) := Hid.mk (by
    intro j hj
    refine hcell4 j _ ?_
    rw [← byteCells_at _ j hj]
    simp [Lib.byteCells])
  have hlen : Hid ((p ++ (U ++ t)).length = pn + L + tn) := Hid.mk (by
    have h1 := HP.out.len
    have h2 := HT.out.len
    have h3 := HL.out
    simp
    omega)
  have hdrop : Hid (dec ((p ++ (U ++ t)).drop pn) = some (gap, L)) := Hid.mk (by
    rw [List.drop_append_of_le_length (by rw [HP.out.len]; omega), List.drop_of_length_le (by rw [HP.out.len]; omega)]
    simpa using HDD.out)
  clear hown4 hgr4 O3 B3 hcell4
  have hA : Lies w4 (some ⟨g4, 0, none⟩) cap4 pn (p ++ (U ++ t)) := fun _ => ⟨g4, 0, rfl, C4.out⟩
  have HR : Hid (Calls Ybaf.prog 6 #[.pointer (some ⟨w4.heap.size, 0, none⟩), .int .u64 seq] (decAt w4 (some ⟨g4, 0, none⟩) (pn + L + tn) cap4 pn) fun e w' => e = .returned (.tuple #[.int .u64 (seq - 1 - gap), .nilIface]) ∧ w'.cell? ⟨w4.heap.size, 1, none⟩ = some (.int .i64 ((pn + L : Nat) : Int)) ∧ Below w4.heap.size w4 w') :=
    rd_ok pn (pn + L + tn) cap4 _ (p ++ (U ++ t)) seq gap L w4 (by omega) hc4 hm4 hlen.out hA hdrop.out hgs hs1
  clear hA
  go_wp2_with (go_at_call 6; go_must (refine HR.out.mono ?_); rintro e w5 ⟨rfl, hce, hb5⟩; have B5 := Hid.mk (B4.out.trans (hb5.mono B4.out.size)); clear hb5)
  go_ret
  exact ⟨ret_true (by simp; omega), B5.out⟩
end Go.Proofs.YbulkojqFmt
