import Derived.Test.YbulkojqMap
import Derived.Test.YbulkojqCount
import Derived.Deep.RegionLaw
import Derived.Deep.AppendLies
set_option linter.unusedVariables false
set_option linter.unusedSimpArgs false
namespace Go.Proofs.Ybulkojq
open Go.RowKit

theorem inf22 : (Yba.prog.info? 22).map (fun i => (i.zero, i.size, i.bytes)) = some (some (.int .u64 0), 1, 8) := by kernel_rfl

def sq (e : Ent) : Value := .int .u64 (e.1 : Nat)
def vl (e : Ent) : Value := .int .i64 (e.2 : Nat)

/-- The two slices that 'walk' fills. -/
structure OutV (w : World) (C q1 q2 : Nat) (v1 v2 : Value) (A V : List Value) : Prop where
  h1 : w.heap[q1]? = some (.cells #[v1] 23 (0, 0))
  h2 : w.heap[q2]? = some (.cells #[v2] 24 (0, 0))
  r1 : w.ownsRow C 22 1 v1 A.length A
  r2 : w.ownsRow C 33 1 v2 V.length V
  c1 : C ≤ q1
  c2 : C ≤ q2

def OutAt (w : World) (C q1 q2 : Nat) (A V : List Value) : Prop := ∃ v1 v2, OutV w C q1 q2 v1 v2 A V

theorem own_ty {w : World} {C n : Nat} {t : TypeId} {v : Value} {xs : List Value} (h : w.ownsRow C t 1 v n xs) {g : Nat} (hg : v.ownBlock = some g) : ∃ cur, w.heap[g]? = some (.cells cur t (0, 0)) := by
  obtain ⟨_, ⟨rfl, _⟩ | ⟨g', cap, cur, rfl, _, hh, _⟩⟩ := h
  · cases hg
  · cases hg; exact ⟨cur, hh⟩

/-- Blocks of different types are different. -/
theorem ty_ne {w : World} {a b : Nat} {c d : Array Value} {s t : TypeId} {f g : Nat × Nat} (ha : w.heap[a]? = some (.cells c s f)) (hb : w.heap[b]? = some (.cells d t g)) (hne : s ≠ t) : a ≠ b := by
  rintro rfl
  rw [ha] at hb
  cases hb
  exact hne rfl

theorem OutV.ne1 {w : World} {C q1 q2 : Nat} {v1 v2 : Value} {A V : List Value} (o : OutV w C q1 q2 v1 v2 A V) : some q1 ≠ v1.ownBlock ∧ some q2 ≠ v1.ownBlock ∧ (v2.ownBlock = none ∨ v2.ownBlock ≠ v1.ownBlock) ∧ q1 ≠ q2 := by
  refine ⟨fun e => ?_, fun e => ?_, ?_, ty_ne o.h1 o.h2 (by decide)⟩
  · obtain ⟨cur, hc⟩ := own_ty o.r1 e.symm
    exact ty_ne o.h1 hc (by decide) rfl
  · obtain ⟨cur, hc⟩ := own_ty o.r1 e.symm
    exact ty_ne o.h2 hc (by decide) rfl
  · cases hv : v2.ownBlock with
    | none => exact .inl rfl
    | some g =>
      refine .inr (fun e => ?_)
      obtain ⟨cur, hc⟩ := own_ty o.r2 hv
      obtain ⟨cur', hc'⟩ := own_ty o.r1 e.symm
      exact ty_ne hc hc' (by decide) rfl

theorem OutV.ne2 {w : World} {C q1 q2 : Nat} {v1 v2 : Value} {A V : List Value} (o : OutV w C q1 q2 v1 v2 A V) : some q1 ≠ v2.ownBlock ∧ some q2 ≠ v2.ownBlock ∧ (v1.ownBlock = none ∨ v1.ownBlock ≠ v2.ownBlock) := by
  refine ⟨fun e => ?_, fun e => ?_, ?_⟩
  · obtain ⟨cur, hc⟩ := own_ty o.r2 e.symm
    exact ty_ne o.h1 hc (by decide) rfl
  · obtain ⟨cur, hc⟩ := own_ty o.r2 e.symm
    exact ty_ne o.h2 hc (by decide) rfl
  · cases hv : v1.ownBlock with
    | none => exact .inl rfl
    | some g =>
      refine .inr (fun e => ?_)
      obtain ⟨cur, hc⟩ := own_ty o.r1 hv
      obtain ⟨cur', hc'⟩ := own_ty o.r2 e.symm
      exact ty_ne hc hc' (by decide) rfl

theorem blk_lt {w : World} {r : Nat} {o : Obj} (h : w.heap[r]? = some o) : r < w.heap.size := (Array.getElem?_eq_some_iff.1 h).1

theorem own_size {w : World} {C n : Nat} {t : TypeId} {v : Value} {xs : List Value} (h : w.ownsRow C t 1 v n xs) {g : Nat} (hg : v.ownBlock = some g) : C ≤ g := (h.lt g hg).1

/-- A new block is laid. -/
theorem OutV.grow {w w' : World} {C q1 q2 : Nat} {v1 v2 : Value} {A V : List Value} (o : OutV w C q1 q2 v1 v2 A V) (hg : w.grownBy w' none) : OutV w' C q1 q2 v1 v2 A V where
  h1 := by rw [hg.block q1 (blk_lt o.h1) (by simp)]; exact o.h1
  h2 := by rw [hg.block q2 (blk_lt o.h2) (by simp)]; exact o.h2
  r1 := o.r1.kept hg (by cases h : v1.ownBlock <;> simp)
  r2 := o.r2.kept hg (by cases h : v2.ownBlock <;> simp)
  c1 := o.c1
  c2 := o.c2

/-- The first slice grew. -/
theorem OutV.push1 {w w' : World} {C q1 q2 : Nat} {v1 v2 v1' : Value} {A V A' : List Value} (o : OutV w C q1 q2 v1 v2 A V) (hg : w.grownBy w' v1.ownBlock) (hown : w'.ownsRow C 22 1 v1' A'.length A') :
    OutV (w'.setCell ⟨q1, 0, none⟩ v1') C q1 q2 v1' v2 A' V := by
  obtain ⟨n1, n2, n3, n4⟩ := o.ne1
  have e1 : w'.heap[q1]? = some (.cells #[v1] 23 (0, 0)) := by rw [hg.block q1 (blk_lt o.h1) n1]; exact o.h1
  have e2 : w'.heap[q2]? = some (.cells #[v2] 24 (0, 0)) := by rw [hg.block q2 (blk_lt o.h2) n2]; exact o.h2
  have k2 : w'.ownsRow C 33 1 v2 V.length V := o.r2.kept hg n3
  have gs := grown_setCell w' ⟨q1, 0, none⟩ v1'
  refine ⟨by have := set_blk (o := 0) (u := v1') e1; simpa using this, by rw [Below.heap_setCell _ _ _ _ (fun e => n4 e.symm)]; exact e2, ?_, ?_, o.c1, o.c2⟩
  · refine hown.kept gs ?_
    cases hv : v1'.ownBlock with
    | none => exact .inl rfl
    | some g =>
      refine .inr (fun e => ?_)
      obtain ⟨cur, hc⟩ := own_ty hown hv
      cases e
      exact ty_ne e1 hc (by decide) rfl
  · refine k2.kept gs ?_
    cases hv : v2.ownBlock with
    | none => exact .inl rfl
    | some g =>
      refine .inr (fun e => ?_)
      obtain ⟨cur, hc⟩ := own_ty k2 hv
      cases e
      exact ty_ne e1 hc (by decide) rfl

/-- The second slice grew. -/
theorem OutV.push2 {w w' : World} {C q1 q2 : Nat} {v1 v2 v2' : Value} {A V V' : List Value} (o : OutV w C q1 q2 v1 v2 A V) (hg : w.grownBy w' v2.ownBlock) (hown : w'.ownsRow C 33 1 v2' V'.length V') :
    OutV (w'.setCell ⟨q2, 0, none⟩ v2') C q1 q2 v1 v2' A V' := by
  obtain ⟨n1, n2, n3⟩ := o.ne2
  have n4 := o.ne1.2.2.2
  have e1 : w'.heap[q1]? = some (.cells #[v1] 23 (0, 0)) := by rw [hg.block q1 (blk_lt o.h1) n1]; exact o.h1
  have e2 : w'.heap[q2]? = some (.cells #[v2] 24 (0, 0)) := by rw [hg.block q2 (blk_lt o.h2) n2]; exact o.h2
  have k1 : w'.ownsRow C 22 1 v1 A.length A := o.r1.kept hg n3
  have gs := grown_setCell w' ⟨q2, 0, none⟩ v2'
  refine ⟨by rw [Below.heap_setCell _ _ _ _ n4]; exact e1, by have := set_blk (o := 0) (u := v2') e2; simpa using this, ?_, ?_, o.c1, o.c2⟩
  · refine k1.kept gs ?_
    cases hv : v1.ownBlock with
    | none => exact .inl rfl
    | some g =>
      refine .inr (fun e => ?_)
      obtain ⟨cur, hc⟩ := own_ty k1 hv
      cases e
      exact ty_ne e2 hc (by decide) rfl
  · refine hown.kept gs ?_
    cases hv : v2'.ownBlock with
    | none => exact .inl rfl
    | some g =>
      refine .inr (fun e => ?_)
      obtain ⟨cur, hc⟩ := own_ty hown hv
      cases e
      exact ty_ne e2 hc (by decide) rfl

theorem bit_and (x j : Nat) (hx : x < 18446744073709551616) : bits .and .u64 ((x : Int) / 2 ^ j) 1 = ((x / 2 ^ j % 2 : Nat) : Int) := by
  have h1 : (x : Int) / 2 ^ j = ((x / 2 ^ j : Nat) : Int) := by simp
  rw [h1, ← nat_mask1]
  exact u64_and_nat _ 1 (Nat.lt_of_le_of_lt (Nat.div_le_self _ _) hx) (by omega)

theorem asc_left : ∀ {a b : List Nat} {lo : Nat}, Asc lo (a ++ b) → Asc lo a
  | [], _, _, _ => trivial
  | x :: r, b, lo, h => ⟨h.1, h.2.1, asc_left h.2.2⟩

theorem pre_or (pre j : Nat) (hp : pre < 288230376151711744) (hj : j < 64) : bits .or .u64 ((pre : Int) * 64) (j : Int) = ((pre * 64 + j : Nat) : Int) := by
  have h1 : (pre : Int) * 64 = ((pre * 64 : Nat) : Int) := by omega
  rw [h1, u64_or_nat _ _ (by omega) (by omega), nat_join 6 (pre * 64) j (by omega) (by omega)]

/-- The loop over a leaf. -/
def LeafAt (w : World) (C q1 q2 : Nat) (A V : List Value) (es : List Ent) (j n : Nat) (wr : World) : Prop :=
  ∃ d r, es = d ++ r ∧ n = d.length ∧ (∀ e ∈ d, e.1 % 64 < j) ∧ Asc j (r.map (fun e => e.1 % 64)) ∧ OutAt wr C q1 q2 (A ++ d.map sq) (V ++ d.map vl) ∧ Below C w wr

set_option maxHeartbeats 1000000 in
set_option maxRecDepth 100000 in
theorem leaf_walk {I : Nat → Prop} {w : World} {C q1 q2 blk pre : Nat} {es : List Ent} {A V : List Value} (t : TrieOf (Body I w 0) I w 0 blk pre es) (hI : ∀ k, I k → k < C) (o : OutAt w C q1 q2 A V) (hA : A.length + es.length ≤ 2000) (hV : V.length + es.length ≤ 2000) (hC : C ≤ w.heap.size) :
    Calls Yba.prog 7 #[.pointer (some ⟨blk, 0, none⟩), .int .i64 0, .int .u64 (pre : Nat), .pointer (some ⟨q1, 0, none⟩), .pointer (some ⟨q2, 0, none⟩)] w fun e w' => e = .returned (.bool true) ∧ OutAt w' C q1 q2 (A ++ es.map sq) (V ++ es.map vl) ∧ Below C w w' := by
  obtain ⟨hblk, hp, ss, v, xs, c0, c1, c2, ⟨g, c, rfl, hg, hrow⟩, hne, hxs, hss, hasc, hpre⟩ := t
  rw [if_pos rfl] at c1 c2
  have hlen : xs.length = es.length := by rw [hxs]; simp
  have hsl : ss.length = es.length := by rw [hss]; simp
  have hpos : 0 < es.length := by rw [← hlen]; exact List.length_pos_iff.2 hne
  have hpop : pop 64 (mask ss) = es.length := by rw [pop_len hasc, hsl]
  have CNT := Hid.mk (fun W => count_walk (mask ss) (mask_lt hasc) W)
  rw [hpop] at CNT
  rw [hlen] at c1
  have hbC := hI blk hblk
  have hgC := hI g hg
  have HROW := Hid.mk hrow
  have HASC := Hid.mk hasc
  have HO := Hid.mk o
  have HPRE := Hid.mk hpre
  have HXS := Hid.mk hxs
  have HSS := Hid.mk hss
  clear hrow hasc o hpre hpop hxs hss
  have hz : ((es.length : Int) == 0) = false := by rw [beq_eq_false_iff_ne]; omega
  obtain ⟨i22, hi22, hy0, hy1, hy2⟩ := info_parts inf22
  obtain ⟨i33, hi33, hz0, hz1, hz2⟩ := info_parts inf33
  go_enter Yba.func7, Yba.ntmps7
  go_wp2_with (go_at_call 12; go_must (refine (CNT.out _).mono ?_); rintro e w ⟨rfl, rfl⟩)
  go_loopw [12, 13] (fun k i wr => ∃ j n : Nat, j ≤ 64 ∧ i = .int .i64 j ∧ k = .int .i64 n ∧ LeafAt w C q1 q2 A V es j n wr) (fun _ i _ => 64 - (intOf i).toNat)
  case atStart =>
    refine ⟨0, 0, by omega, rfl, rfl, [], es, rfl, rfl, (fun e he => by cases he), ?_, ?_, Below.refl _ _⟩
    · rw [← HSS.out]; exact HASC.out
    · simpa using HO.out
  case round =>
    obtain ⟨j, n, hj, rfl, rfl, d, r, hes, hn, hd, hr, ho, hbel⟩ := hrel
    have n0 : wr.cell? ⟨blk, 0, none⟩ = some (.int .u64 (mask ss : Nat)) := by rw [hbel.cell (p := ⟨blk, 0, none⟩) hbC]; exact c0
    have C1 := Hid.mk c1
    have n1 : wr.cell? ⟨blk, 1, none⟩ = some (.slice (some ⟨g, 0, none⟩) es.length c) := by rw [hbel.cell (p := ⟨blk, 1, none⟩) hbC]; exact c1
    have BEL := Hid.mk hbel
    have HD := Hid.mk hd
    have HR := Hid.mk hr
    have HES := Hid.mk hes
    have HN := Hid.mk hn
    have HOUT := Hid.mk ho
    have hsum : es.length = d.length + r.length := by rw [hes]; simp
    have hnle : n ≤ es.length := by omega
    have HSUM := Hid.mk hsum
    clear hbel hd hr hes ho c0 c1 c2 hsum hn
    have hssd : ss = d.map (fun e => e.1 % 64) ++ r.map (fun e => e.1 % 64) := by rw [HSS.out, HES.out, List.map_append]
    have HSSD := Hid.mk hssd
    clear hssd
    by_cases h64 : j < 64
    · have ha0 : Asc 0 (d.map (fun e => e.1 % 64)) := by
        have := HASC.out
        rw [HSSD.out] at this
        exact asc_left this
      by_cases hb : ∃ e r', r = e :: r' ∧ e.1 % 64 = j
      · obtain ⟨e, r', rfl, hej⟩ := hb
        have hr1 : Asc (j + 1) (r'.map (fun e => e.1 % 64)) := by
          have := HR.out.2.2
          show Asc (j + 1) _
          rw [← hej]
          exact this
        have hbit := bit_yes (i := j) ha0 (by intro x hx; obtain ⟨e, he, rfl⟩ := List.mem_map.1 hx; exact HD.out e he) hr1
        have hsse : ss = d.map (fun e => e.1 % 64) ++ j :: r'.map (fun e => e.1 % 64) := by rw [HSSD.out, ← hej]; rfl
        rw [← hsse] at hbit
        have hB := bit_and (mask ss) j (mask_lt HASC.out)
        rw [hbit] at hB
        have he1 : e.1 = pre * 64 + j := by
          have := HPRE.out e (by rw [HES.out]; simp)
          omega
        have hor := pre_or pre j hp h64
        rw [← he1] at hor
        obtain ⟨s0, hs0⟩ : ∃ s0, s0 = e.1 := ⟨_, rfl⟩
        rw [← hs0] at hor
        have HS0 := Hid.mk hs0
        have HEJ := Hid.mk hej
        clear he1 hs0 hej
        have HR1 := Hid.mk hr1
        clear hbit ha0 hr1 hsse
        obtain ⟨v1, v2, o⟩ := HOUT.out
        have p1 : wr.cell? ⟨q1, 0, none⟩ = some v1 := cell_blk o.h1
        have f1 : ∀ o', wr.frozen? ⟨q1, o', none⟩ = false := fun o' => froz_blk o.h1
        have hq1 := blk_lt o.h1
        have hCw : C ≤ wr.heap.size := Nat.le_trans o.c1 (Nat.le_of_lt hq1)
        obtain ⟨N, hN⟩ : ∃ N, N = (A ++ d.map sq).length := ⟨_, rfl⟩
        obtain ⟨xs1, hxs1⟩ : ∃ xs1, xs1 = A ++ d.map sq := ⟨_, rfl⟩
        have hNle : N + 1 ≤ 2000 := by rw [hN]; have := HSUM.out; simp at this ⊢; omega
        have OW1 : Hid (wr.ownsRow C 22 1 v1 N xs1) := Hid.mk (by rw [hN, hxs1]; exact o.r1)
        have OV := Hid.mk o
        have HXS1 := Hid.mk hxs1
        have HNN := Hid.mk hN
        have n0x := o.ne1.1
        clear o hxs1 hN
        go_upto_region 15 with (at_builtin; go_must (refine wpList_append_lies _ rfl (.tmp 62) (.tmp 68) 23 rfl C 22 i22 (.int .u64 0) 1 8 Yba.underlying23 hi22 hy0 hy1 hy2 rfl (by omega) v1 N xs1 rfl (OW1.out.alloc _) ⟨wr.heap.size, 0, none⟩ 1 1 [.int .u64 (s0 : Nat)] rfl rfl (cell_one_new _ _ _) (by intro u hu; simp at hu; subst hu; rfl) (by omega) (by unfold maxLen; omega) (by omega) (by simp; omega) (wr.heap.size + 1) (by simp) ?_); intro g5 c5 w5 hown5 hgr5 hat5 hlt5; have e5 : w5.cell? ⟨q1, 0, none⟩ = some v1 := (by rw [cell_grown hgr5 (by simp; omega) n0x]; go_simp); have f5 : w5.frozen? ⟨q1, 0, none⟩ = false := (by rw [World.frozen?_of_block (hgr5.block q1 (by simp; omega) n0x)]; go_simp); have OWN5 := Hid.mk hown5; have GR5 := Hid.mk hgr5; clear hown5 hgr5 hat5 hlt5)
        have hnlt : n < es.length := by
          have h1 := HSUM.out
          have h2 := HN.out
          simp at h1
          omega
        have hW := OV.out.grow (World.grownBy_alloc wr (.cells #[.int .u64 (s0 : Nat)] 22) none) |>.push1 (A' := xs1 ++ [.int .u64 (s0 : Nat)]) GR5.out (by rw [List.length_append, HXS1.out, ← HNN.out, ← HXS1.out]; exact OWN5.out)
        have hBW : Below C w (w5.setCell ⟨q1, 0, none⟩ (.slice (some ⟨g5, 0, none⟩) (N + 1) c5)) := by
          refine Below.setCell ?_ (p := ⟨q1, 0, none⟩) hW.c1 _
          exact (BEL.out.trans (below_grown (World.grownBy_alloc wr _ none) hCw)).grown GR5.out (by simp; omega) (fun k hk => own_size OW1.out hk)
        clear e5 f5 p1 f1 n0 n1
        generalize w5.setCell ⟨q1, 0, none⟩ (.slice (some ⟨g5, 0, none⟩) (N + 1) c5) = W at *
        have p2 : W.cell? ⟨q2, 0, none⟩ = some v2 := cell_blk hW.h2
        have f2 : ∀ o', W.frozen? ⟨q2, o', none⟩ = false := fun o' => froz_blk hW.h2
        have m1 : W.cell? ⟨blk, 1, none⟩ = some (.slice (some ⟨g, 0, none⟩) es.length c) := by rw [hBW.cell (p := ⟨blk, 1, none⟩) hbC]; exact C1.out
        have m2 : W.cell? ⟨g, n, none⟩ = some (.int .i64 (e.2 : Nat)) := by
          rw [hBW.cell (p := ⟨g, n, none⟩) hgC]
          refine HROW.out n _ ?_
          rw [HXS.out, HES.out, HN.out]
          simp
        have hq2 := blk_lt hW.h2
        have hCW : C ≤ W.heap.size := Nat.le_trans hW.c2 (Nat.le_of_lt hq2)
        have nq2 := hW.ne2.2.1
        have hown2 := hW.r2
        have nbv : some blk ≠ v2.ownBlock := fun e => by have := own_size hown2 e.symm; omega
        have ngv : some g ≠ v2.ownBlock := fun e => by have := own_size hown2 e.symm; omega
        obtain ⟨M, hM⟩ : ∃ M, M = (V ++ d.map vl).length := ⟨_, rfl⟩
        obtain ⟨xs2, hxs2⟩ : ∃ xs2, xs2 = V ++ d.map vl := ⟨_, rfl⟩
        have hMle : M + 1 ≤ 2000 := by rw [hM]; have := HSUM.out; simp at this ⊢; omega
        rw [← hM, ← hxs2] at hown2
        have HXS2 := Hid.mk hxs2
        have HMM := Hid.mk hM
        have HW := Hid.mk hW
        have HBW := Hid.mk hBW
        have bl1 : blk < W.heap.size := by omega
        have bl2 : g < W.heap.size := by omega
        obtain ⟨vv, hvv⟩ : ∃ vv : Nat, vv = e.2 := ⟨_, rfl⟩
        rw [← hvv] at m2
        have HVV := Hid.mk hvv
        clear hxs2 hM hW hBW OWN5 GR5 OV OW1 hvv BEL n0x hB hor HO
        have hn0 : (0 : Int) ≤ (n : Int) := Int.natCast_nonneg _
        have hn1 : (n : Int) < (es.length : Int) := by omega
        go_region_law
          ((refine step_append_lies _ (by rfl) _ _ _ (by rfl) C 33 i33 _ 1 8 Yba.underlying24 hi33 hz0 hz1 hz2 rfl (by omega) v2 M xs2 (by rfl) ((hown2.alloc _).drew)
              ⟨W.heap.size, 0, none⟩ 1 1 [.int .i64 (vv : Nat)] (by rfl) (by rfl) (World.news_of_block (cs := #[.int .i64 (vv : Nat)]) (t := 33) (fr := (0, 0)) (heap_alloc_new W _)) (by simp [Value.oneCell'])
              (by omega) (by unfold maxLen; omega) (by omega) (by simp; omega) (W.heap.size + 1) (by simp) ?_; intro gg cap w7 hown7 hgrow hat hlt; have f7 : w7.frozen? ⟨q2, 0, none⟩ = false := (by rw [World.frozen?_of_block (hgrow.block q2 (by simp; omega) nq2)]; go_simp); have p7 : w7.cell? ⟨q2, 0, none⟩ = some v2 := (by rw [cell_grown hgrow (by simp; omega) nq2]; go_simp)))
        all_goals
          have OW7 := Hid.mk hown7
          have GR7 := Hid.mk hgrow
          clear hown7 hgrow hat hlt f7
          go_wp2
          have gr7 : (W.alloc (.cells #[.int .i64 (vv : Nat)] 33)).drew.grownBy w7 v2.ownBlock := GR7.out
          have gw : W.grownBy (W.alloc (.cells #[.int .i64 (vv : Nat)] 33)).drew none := (World.grownBy_alloc W _ none).trans (grown_drew _)
          have oo := (HW.out.grow gw).push2 (V' := xs2 ++ [.int .i64 (vv : Nat)]) gr7 (by rw [List.length_append, HXS2.out, ← HMM.out, ← HXS2.out]; exact OW7.out)
          have bb : Below C w (w7.setCell ⟨q2, 0, none⟩ (.slice (some ⟨gg, 0, none⟩) (M + 1) cap)) := by
            refine Below.setCell ?_ (p := ⟨q2, 0, none⟩) HW.out.c2 _
            exact (HBW.out.trans (below_grown gw hCW)).grown gr7 (show C ≤ (W.alloc _).heap.size by simp; omega) (fun k hk => own_size HW.out.r2 hk)
          refine ⟨⟨j + 1, n + 1, by omega, congrArg _ (by omega), congrArg _ (by omega), d ++ [e], r', by rw [HES.out]; simp, by rw [HN.out]; simp, fun e' he' => ?_, HR1.out, ?_, bb⟩, by simp [intOf]; omega⟩
          · rcases List.mem_append.1 he' with h | h
            · have := HD.out e' h
              omega
            · obtain rfl := List.mem_singleton.1 h
              rw [HEJ.out]
              omega
          · have e1 : A ++ (d ++ [e]).map sq = xs1 ++ [.int .u64 (s0 : Nat)] := by rw [HXS1.out, HS0.out]; simp [sq]
            have e2 : V ++ (d ++ [e]).map vl = xs2 ++ [.int .i64 (vv : Nat)] := by rw [HXS2.out, HVV.out]; simp [vl]
            rw [e1, e2]
            exact ⟨_, _, oo⟩
      · have hr1 : Asc (j + 1) (r.map (fun e => e.1 % 64)) := by
          have := HR.out
          cases r with
          | nil => trivial
          | cons e r' =>
            have h1 : j ≤ e.1 % 64 := this.1
            refine ⟨?_, this.2⟩
            show j + 1 ≤ e.1 % 64
            by_cases e1 : e.1 % 64 = j
            · exact absurd ⟨e, r', rfl, e1⟩ hb
            · omega
        have hbit := bit_no (i := j) ha0 (by intro x hx; obtain ⟨e, he, rfl⟩ := List.mem_map.1 hx; exact HD.out e he) hr1
        rw [← HSSD.out] at hbit
        have hB := bit_and (mask ss) j (mask_lt HASC.out)
        rw [hbit] at hB
        clear hb hbit ha0
        have HR1 := Hid.mk hr1
        clear hr1
        go_wp2
        refine ⟨⟨j + 1, n, by omega, congrArg _ (by omega), rfl, d, r, HES.out, HN.out, fun e he => ?_, HR1.out, HOUT.out, BEL.out⟩, by simp [intOf]; omega⟩
        have := HD.out e he
        omega
    · have hr0 : r = [] := by
        have := HR.out
        cases r with
        | nil => rfl
        | cons e r' =>
          have h1 : j ≤ e.1 % 64 := this.1
          omega
      go_wp2
      go_ret
      have hed : es = d := by rw [HES.out, hr0, List.append_nil]
      rw [hed]
      exact ⟨rfl, HOUT.out, BEL.out⟩
end Go.Proofs.Ybulkojq
