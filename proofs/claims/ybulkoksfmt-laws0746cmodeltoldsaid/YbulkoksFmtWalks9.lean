import Derived.Test.YbulkoksFmtWalks8
set_option linter.unusedVariables false
namespace Go.Proofs.YbulkoksFmt
open Go.RowKit Go.Extern.Stop Go.Stop Go.Extern

theorem IntRow.later {w w' : World} {g n : Nat} {ps : List Int} (h : IntRow w g n ps) (hb : Below w.heap.size w w') : IntRow w' g n ps :=
  ⟨by rw [hb.block g h.lt]; exact h.1, h.2⟩

/-- A slice of ints that came in. -/
def Src (w : World) (a : Option Addr) (n : Nat) : Prop := n ≤ maxLen ∧ ∀ j, j < n → ∃ g o z, a = some ⟨g, o, none⟩ ∧ w.cell? ⟨g, o + j, none⟩ = some (.int .i64 z)

theorem Src.later {w w' : World} {a : Option Addr} {n : Nat} (h : Src w a n) (hb : Below w.heap.size w w') : Src w' a n :=
  ⟨h.1, fun j hj => by
    obtain ⟨g, o, z, e, hc⟩ := h.2 j hj
    exact ⟨g, o, z, e, cell_later hb hc⟩⟩

set_option maxHeartbeats 1000000 in
/-- 'zzs0746cvec': a new row of n numbers. -/
theorem vec_any (a : Option Addr) (n1 k1 n : Nat) (w : World) (h : Src w a n1) (hn : n ≤ 8) :
    Calls Ybaf.prog 10 #[.slice a n1 k1, .int .i64 n] w fun e w' => ∃ ps, e = .returned (.slice (some ⟨w.heap.size, 0, none⟩) n n) ∧ IntRow w' w.heap.size n ps ∧ Below w.heap.size w w' := by
  obtain ⟨i, hi, hz0', hz1', hz2'⟩ := info_parts info3
  have H : Hid (Src w a n1) := h
  have hm := h.1
  unfold maxLen at hm
  clear h
  go_enter Ybaf.func10, Ybaf.ntmps10
  go_wp2_with (at_make; go_must (refine wpList_make_full _ rfl _ _ 22 rfl w.heap.size 3 i (.int .i64 0) 1 Ybaf.underlying22 hi hz0' hz1' _ _ _ _ n rfl rfl rfl rfl (by rw [hz2']; omega) (by unfold maxLen; omega) (Nat.le_refl _) ?_))
  intro w2 hown2 hgr2
  have R2 : Hid (IntRow w2 w.heap.size n (List.replicate n 0)) := Hid.mk (intRow_made (by simpa using hown2))
  have B2 : Hid (Below w.heap.size w w2) := Hid.mk ((Below.refl _ w).grown hgr2 (Nat.le_refl _) (fun k hk => by cases hk))
  clear hown2 hgr2
  go_wp2
  go_loopw [6] (fun i wr => ∃ (k : Nat) (ps : List Int), k ≤ n ∧ i = .int .i64 k ∧ IntRow wr w.heap.size n ps ∧ Below w.heap.size w wr) (fun i _ => n - (intOf i).toNat)
  case atStart => exact ⟨0, _, Nat.zero_le _, rfl, R2.out, B2.out⟩
  case round =>
    obtain ⟨k, ps, hkn, rfl, hP, hB⟩ := hrel
    have HP := Hid.mk hP
    have HB := Hid.mk hB
    clear hP hB R2 B2
    by_cases hlt : k < n
    · have pk := HP.out.ints k hlt
      have pf : wr.frozen? ⟨w.heap.size, k, none⟩ = false := HP.out.froz
      have hlt' : (k : Int) < (n : Int) := by omega
      rw [Nat.zero_add] at pk
      generalize ps.getD k 0 = pv at pk
      by_cases l1 : k < n1
      · obtain ⟨g1, o1, y1, rfl, e1⟩ := H.out.2 k l1
        have e1 := cell_later HB.out e1
        have l1' : (k : Int) < (n1 : Int) := by omega
        go_wp2
        go_roundw
        case rel => exact ⟨k + 1, _, by omega, by go_num, HP.out.set _, HB.out.setCell (Nat.le_refl _) _⟩
        case measure => simp [intOf]; omega
      · have l1' : ¬ (k : Int) < (n1 : Int) := by omega
        go_wp2
        go_roundw
        case rel => exact ⟨k + 1, _, by omega, by go_num, HP.out, HB.out⟩
        case measure => simp [intOf]; omega
    · go_wp2
      go_ret
      exact ⟨ps, rfl, HP.out, HB.out⟩

/-- 'happenedBefore' refuses. -/
def Refuses (e : Ending) : Prop := ∃ x, e = .returned (.tuple #[.bool false, .iface 58 x])

set_option maxHeartbeats 400000 in
theorem hb_e (F : Interp) (c lb nb cp n : Nat) (ss : List ByteArray) (bef aft pb cb pe pf : Int) (a1 a2 b1 b2 : Option Addr) (n1 k1 n2 k2 m1 j1 m2 j2 : Nat) (w : World) (hF : F.answers w.tape) (hk : Clk w c lb nb cp n ss bef aft pb cb)
    (he : (pe < 0 ∨ (n : Int) ≤ pe) ∨ (n1 ≠ n ∨ n2 ≠ n)) :
    Calls Ybaf.prog 11 #[.pointer (some ⟨c, 0, none⟩), .agg #[.int .i64 pe, .slice a1 n1 k1, .slice a2 n2 k2], .agg #[.int .i64 pf, .slice b1 m1 j1, .slice b2 m2 j2]] w fun e w' => Refuses e ∧ Below w.heap.size w w' := by
  have HS : Hid (∀ W, Below w.heap.size w W → Calls Ybaf.prog 13 #[.pointer (some ⟨c, 0, none⟩), .agg #[.int .i64 pe, .slice a1 n1 k1, .slice a2 n2 k2]] W fun e w' => Err e ∧ Below W.heap.size W w') := Hid.mk (by
    intro W hb
    by_cases hp : pe < 0 ∨ (n : Int) ≤ pe
    · exact shape_proc F c lb nb cp n ss bef aft pb cb pe _ _ W (by rw [hb.tape]; exact hF) (hk.later hb) hp
    · exact shape_len F c lb nb cp n ss bef aft pb cb pe a1 a2 n1 k1 n2 k2 W (by rw [hb.tape]; exact hF) (hk.later hb) (by omega) (by omega) (by omega))
  clear hF hk he
  go_enter Ybaf.func11, Ybaf.ntmps11
  go_wp2_with (go_at_call 13; go_must (refine (HS.out _ (by exact ((Below.refl _ w).alloc (Nat.le_refl _) _).alloc (by simp) _)).mono ?_); rintro e w1 ⟨⟨x, rfl⟩, hb1⟩)
  go_ret2
  exact ⟨⟨_, rfl⟩, (((Below.refl _ w).alloc (Nat.le_refl _) _).alloc (by simp) _).trans (hb1.mono (by simp; omega))⟩

set_option maxHeartbeats 400000 in
theorem hb_f (F : Interp) (c lb nb cp n : Nat) (ss : List ByteArray) (bef aft pb cb pe pf : Int) (a1 a2 b1 b2 : Option Addr) (k1 k2 m1 j1 m2 j2 : Nat) (w : World) (hF : F.answers w.tape) (hk : Clk w c lb nb cp n ss bef aft pb cb)
    (h0 : 0 ≤ pe) (h1 : pe < n) (hf : (pf < 0 ∨ (n : Int) ≤ pf) ∨ (m1 ≠ n ∨ m2 ≠ n)) :
    Calls Ybaf.prog 11 #[.pointer (some ⟨c, 0, none⟩), .agg #[.int .i64 pe, .slice a1 n k1, .slice a2 n k2], .agg #[.int .i64 pf, .slice b1 m1 j1, .slice b2 m2 j2]] w fun e w' => Refuses e ∧ Below w.heap.size w w' := by
  have HE : Hid (∀ W, Below w.heap.size w W → Calls Ybaf.prog 13 #[.pointer (some ⟨c, 0, none⟩), .agg #[.int .i64 pe, .slice a1 n k1, .slice a2 n k2]] W fun e w' => e = .returned .nilIface ∧ Below W.heap.size W w') := Hid.mk (by
    intro W hb
    exact shape_ok c lb nb cp n ss bef aft pb cb pe a1 a2 k1 k2 W (hk.later hb) h0 h1)
  have HS : Hid (∀ W, Below w.heap.size w W → Calls Ybaf.prog 13 #[.pointer (some ⟨c, 0, none⟩), .agg #[.int .i64 pf, .slice b1 m1 j1, .slice b2 m2 j2]] W fun e w' => Err e ∧ Below W.heap.size W w') := Hid.mk (by
    intro W hb
    by_cases hp : pf < 0 ∨ (n : Int) ≤ pf
    · exact shape_proc F c lb nb cp n ss bef aft pb cb pf _ _ W (by rw [hb.tape]; exact hF) (hk.later hb) hp
    · exact shape_len F c lb nb cp n ss bef aft pb cb pf b1 b2 m1 j1 m2 j2 W (by rw [hb.tape]; exact hF) (hk.later hb) (by omega) (by omega) (by omega))
  clear hF hk hf
  go_enter Ybaf.func11, Ybaf.ntmps11
  go_wp2_with fail
  refine (HE.out _ (by exact ((Below.refl _ w).alloc (Nat.le_refl _) _).alloc (by simp) _)).mono ?_
  rintro e w1 ⟨rfl, hb1⟩
  have B1 : Hid (Below w.heap.size w w1) := Hid.mk ((((Below.refl _ w).alloc (Nat.le_refl _) _).alloc (by simp) _).trans (hb1.mono (by simp; omega)))
  have f0 : w1.cell? ⟨w.heap.size + 1, 0, none⟩ = some (.int .i64 pf) := cell_later hb1 (by go_simp)
  have f1 : w1.cell? ⟨w.heap.size + 1, 1, none⟩ = some (.slice b1 m1 j1) := cell_later hb1 (by go_simp)
  have f2 : w1.cell? ⟨w.heap.size + 1, 2, none⟩ = some (.slice b2 m2 j2) := cell_later hb1 (by go_simp)
  clear hb1
  go_wp2_with fail
  refine (HS.out _ B1.out).mono ?_
  rintro e w2 ⟨⟨x, rfl⟩, hb2⟩
  go_wp2_with fail
  go_ret2
  exact ⟨⟨_, rfl⟩, B1.out.trans (hb2.mono B1.out.size)⟩
end Go.Proofs.YbulkoksFmt
