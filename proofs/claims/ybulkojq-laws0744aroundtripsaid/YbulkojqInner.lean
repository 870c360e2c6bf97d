import Derived.Test.YbulkojqLeaf
set_option linter.unusedVariables false
set_option linter.unusedSimpArgs false
namespace Go.Proofs.Ybulkojq
open Go.RowKit

/-- What 'walk' does at a height. -/
def WalkAt (h : Nat) : Prop := ∀ (I : Nat → Prop) (w : World) (C q1 q2 blk pre : Nat) (es : List Ent) (A V : List Value), TrieOf (Body I w h) I w h blk pre es → (∀ k, I k → k < C) → OutAt w C q1 q2 A V → A.length + es.length ≤ 2000 → V.length + es.length ≤ 2000 → C ≤ w.heap.size →
  Calls Yba.prog 7 #[.pointer (some ⟨blk, 0, none⟩), .int .i64 (h : Nat), .int .u64 (pre : Nat), .pointer (some ⟨q1, 0, none⟩), .pointer (some ⟨q2, 0, none⟩)] w fun e w' => e = .returned (.bool true) ∧ OutAt w' C q1 q2 (A ++ es.map sq) (V ++ es.map vl) ∧ Below C w w'

/-- The loop over an inner node. -/
def KidsAt (w : World) (C q1 q2 : Nat) (A V : List Value) (ks : List Kid) (j n : Nat) (wr : World) : Prop :=
  ∃ d r, ks = d ++ r ∧ n = d.length ∧ (∀ k ∈ d, k.slot < j) ∧ Asc j (r.map (fun k => k.slot)) ∧ OutAt wr C q1 q2 (A ++ (d.flatMap (fun k => k.es)).map sq) (V ++ (d.flatMap (fun k => k.es)).map vl) ∧ Below C w wr

set_option maxHeartbeats 1000000 in
set_option maxRecDepth 100000 in
theorem inner_step {h : Nat} (ih : WalkAt h) (h10 : h ≤ 10) : WalkAt (h + 1) := by
  intro I w C q1 q2 blk pre es A V t hI o hA hV hC
  obtain ⟨H, hH⟩ : ∃ H, H = h + 1 := ⟨_, rfl⟩
  obtain ⟨hblk, hp, ss, v, xs, c0, c1, c2, ⟨g, c, rfl, hg, hrow⟩, hne, ks, hxs, hss, hasc, hes, hkids⟩ := t
  rw [if_neg (by omega)] at c1 c2
  have hlen : xs.length = ks.length := by rw [hxs]; simp
  have hsl : ss.length = ks.length := by rw [hss]; simp
  have hpos : 0 < ks.length := by rw [← hlen]; exact List.length_pos_iff.2 hne
  have hk64 : ks.length ≤ 64 := by rw [← hsl]; exact asc_len hasc
  have hpop : pop 64 (mask ss) = ks.length := by rw [pop_len hasc, hsl]
  have CNT := Hid.mk (fun W => count_walk (mask ss) (mask_lt hasc) W)
  rw [hpop] at CNT
  rw [hlen] at c2
  have hbC := hI blk hblk
  have hgC := hI g hg
  have HROW := Hid.mk hrow
  have HASC := Hid.mk hasc
  have HO := Hid.mk o
  have HXS := Hid.mk hxs
  have HSS := Hid.mk hss
  have HES := Hid.mk hes
  have HK := Hid.mk hkids
  have IH := Hid.mk ih
  have HI := Hid.mk hI
  have HAl := Hid.mk hA
  have HVl := Hid.mk hV
  have hz : ((ks.length : Int) == 0) = false := by rw [beq_eq_false_iff_ne]; omega
  have hH0 : ((H : Int) == 0) = false := by rw [beq_eq_false_iff_ne]; omega
  have hH1 : ¬ ((H : Int) < 0) := by omega
  have hHs : (H : Int) - 1 = (h : Int) := by omega
  have hH11 : H ≤ 11 := by omega
  rw [← hH]
  clear hrow hasc o hpop hxs hss hes hkids ih hI hA hV hH hne hlen hsl
  go_enter Yba.func7, Yba.ntmps7
  go_wp2_with (go_at_call 12; go_must (refine (CNT.out _).mono ?_); rintro e w ⟨rfl, rfl⟩)
  go_loopw [14, 15] (fun k i wr => ∃ j n : Nat, j ≤ 64 ∧ i = .int .i64 j ∧ k = .int .i64 n ∧ KidsAt w C q1 q2 A V ks j n wr) (fun _ i _ => 64 - (intOf i).toNat)
  case atStart =>
    refine ⟨0, 0, by omega, rfl, rfl, [], ks, rfl, rfl, (fun e he => by cases he), ?_, ?_, Below.refl _ _⟩
    · rw [← HSS.out]; exact HASC.out
    · simpa using HO.out
  case round =>
    obtain ⟨j, n, hj, rfl, rfl, d, r, hks, hn, hd, hr, ho, hbel⟩ := hrel
    have n0 : wr.cell? ⟨blk, 0, none⟩ = some (.int .u64 (mask ss : Nat)) := by rw [hbel.cell (p := ⟨blk, 0, none⟩) hbC]; exact c0
    have n2 : wr.cell? ⟨blk, 2, none⟩ = some (.slice (some ⟨g, 0, none⟩) ks.length c) := by rw [hbel.cell (p := ⟨blk, 2, none⟩) hbC]; exact c2
    have BEL := Hid.mk hbel
    have HD := Hid.mk hd
    have HR := Hid.mk hr
    have HKS := Hid.mk hks
    have HN := Hid.mk hn
    have HOUT := Hid.mk ho
    have hsum : ks.length = d.length + r.length := by rw [hks]; simp
    have hnle : n ≤ ks.length := by omega
    have HSUM := Hid.mk hsum
    clear hbel hd hr hks ho c0 c1 c2 hsum hn
    have hssd : ss = d.map (fun e => e.slot) ++ r.map (fun e => e.slot) := by rw [HSS.out, HKS.out, List.map_append]
    have HSSD := Hid.mk hssd
    clear hssd
    by_cases h64 : j < 64
    · have ha0 : Asc 0 (d.map (fun e => e.slot)) := by
        have := HASC.out
        rw [HSSD.out] at this
        exact asc_left this
      by_cases hb : ∃ e r', r = e :: r' ∧ e.slot = j
      · obtain ⟨e, r', rfl, hej⟩ := hb
        have hr1 : Asc (j + 1) (r'.map (fun e => e.slot)) := by
          have := HR.out.2.2
          show Asc (j + 1) _
          rw [← hej]
          exact this
        have hbit := bit_yes (i := j) ha0 (by intro x hx; obtain ⟨e, he, rfl⟩ := List.mem_map.1 hx; exact HD.out e he) hr1
        have hsse : ss = d.map (fun e => e.slot) ++ j :: r'.map (fun e => e.slot) := by rw [HSSD.out, ← hej]; rfl
        rw [← hsse] at hbit
        have hB := bit_and (mask ss) j (mask_lt HASC.out)
        rw [hbit] at hB
        have hor := pre_or pre j hp h64
        obtain ⟨s0, hs0⟩ : ∃ s0, s0 = pre * 64 + j := ⟨_, rfl⟩
        rw [← hs0] at hor
        have hnlt : n < ks.length := by
          have h1 := HSUM.out
          have h2 := HN.out
          simp at h1
          omega
        have m2 : wr.cell? ⟨g, n, none⟩ = some (.pointer (some ⟨e.blk, 0, none⟩)) := by
          rw [BEL.out.cell (p := ⟨g, n, none⟩) hgC]
          refine HROW.out n _ ?_
          rw [HXS.out, HKS.out, HN.out]
          simp
        have exr : Ext I w I wr := ⟨fun _ h => h, fun k hk => BEL.out.block k (HI.out k hk)⟩
        have tr : TrieOf (Body I wr h) I wr h e.blk s0 e.es := by
          have := HK.out e (by rw [HKS.out]; simp)
          rw [hej, ← hs0] at this
          exact this.keep exr (fun p ss xs es => Body.keep exr h p ss xs es)
        have hCw : C ≤ wr.heap.size := Nat.le_trans hC BEL.out.size
        have hbl : (d.flatMap (fun k => k.es)).length + e.es.length ≤ es.length := by
          rw [HES.out, HKS.out]
          simp
        have CH := Hid.mk (IH.out I wr C q1 q2 e.blk s0 e.es _ _ tr HI.out HOUT.out (by have := HAl.out; rw [List.length_append, List.length_map]; omega) (by have := HVl.out; rw [List.length_append, List.length_map]; omega) hCw)
        have HEJ := Hid.mk hej
        have HR1 := Hid.mk hr1
        have hn0 : (0 : Int) ≤ (n : Int) := Int.natCast_nonneg _
        have hn1 : (n : Int) < (ks.length : Int) := by omega
        clear hbit ha0 hr1 hsse hs0 hej exr tr hbl
        go_wp2_with (go_at_call 7; go_must (refine CH.out.mono ?_); rintro e' w3 ⟨rfl, ho3, hb3⟩; have O3 := Hid.mk ho3; have B3 := Hid.mk hb3; clear ho3 hb3)
        refine ⟨⟨j + 1, n + 1, by omega, congrArg _ (by omega), congrArg _ (by omega), d ++ [e], r', by rw [HKS.out]; simp, by rw [HN.out]; simp, fun e' he' => ?_, HR1.out, ?_, BEL.out.trans B3.out⟩, by simp [intOf]; omega⟩
        · rcases List.mem_append.1 he' with h | h
          · have := HD.out e' h
            omega
          · obtain rfl := List.mem_singleton.1 h
            rw [HEJ.out]
            omega
        · have := O3.out
          simpa using this
      · have hr1 : Asc (j + 1) (r.map (fun e => e.slot)) := by
          have := HR.out
          cases r with
          | nil => trivial
          | cons e r' =>
            have h1 : j ≤ e.slot := this.1
            refine ⟨?_, this.2⟩
            show j + 1 ≤ e.slot
            by_cases e1 : e.slot = j
            · exact absurd ⟨e, r', rfl, e1⟩ hb
            · omega
        have hbit := bit_no (i := j) ha0 (by intro x hx; obtain ⟨e, he, rfl⟩ := List.mem_map.1 hx; exact HD.out e he) hr1
        rw [← HSSD.out] at hbit
        have hB := bit_and (mask ss) j (mask_lt HASC.out)
        rw [hbit] at hB
        clear hb hbit ha0
        have HR1 := Hid.mk hr1
        clear hr1
        go_wp2
        refine ⟨⟨j + 1, n, by omega, congrArg _ (by omega), rfl, d, r, HKS.out, HN.out, fun e he => ?_, HR1.out, HOUT.out, BEL.out⟩, by simp [intOf]; omega⟩
        have := HD.out e he
        omega
    · have hr0 : r = [] := by
        have := HR.out
        cases r with
        | nil => rfl
        | cons e r' =>
          have h1 : j ≤ e.slot := this.1
          have h2 : e.slot < 64 := this.2.1
          omega
      go_wp2
      go_ret
      have hed : es = d.flatMap (fun k => k.es) := by rw [HES.out, HKS.out, hr0, List.append_nil]
      rw [hed]
      exact ⟨rfl, HOUT.out, BEL.out⟩

theorem walk_all : ∀ h, h ≤ 11 → WalkAt h
  | 0, _ => fun I w C q1 q2 blk pre es A V t hI o hA hV hC => leaf_walk t hI o hA hV hC
  | h + 1, hh => inner_step (walk_all h (by omega)) (by omega)

end Go.Proofs.Ybulkojq
