import Derived.Test.YbulkoksFmtWalks11
set_option linter.unusedVariables false
namespace Go.Proofs.YbulkoksFmt
open Go.RowKit Go.Extern.Stop Go.Stop Go.Extern

theorem Clk.under {w w' : World} {B c lb nb cp n : Nat} {ss : List ByteArray} {bef aft pb cb : Int} (h : Clk w c lb nb cp n ss bef aft pb cb) (hb : Below B w w') (h1 : c < B) (h2 : lb < B) (h3 : nb < B) : Clk w' c lb nb cp n ss bef aft pb cb :=
  ⟨(hb.cell (p := ⟨c, 0, none⟩) h1).trans h.c0, (hb.cell (p := ⟨c, 1, none⟩) h1).trans h.c1, (hb.cell (p := ⟨c, 2, none⟩) h1).trans h.c2, (hb.cell (p := ⟨c, 4, none⟩) h1).trans h.c4, (hb.cell (p := ⟨c, 5, none⟩) h1).trans h.c5, (hb.cell (p := ⟨lb, 0, none⟩) h2).trans h.l0, h.len, h.small, fun j hj => (hb.cell (p := ⟨nb, j, none⟩) h3).trans (h.name j hj)⟩

theorem ints_shape {w : World} {B n : Nat} {v : Value} {xs : List Value} (h : w.ownsRow B 3 1 v n xs) (hn : 0 < n) : ∃ g cap, v = .slice (some ⟨g, 0, none⟩) n cap := by
  obtain ⟨hl, ⟨rfl, rfl⟩ | ⟨g, cap, cur, rfl, _⟩⟩ := h
  · omega
  exact ⟨g, cap, rfl⟩

set_option maxHeartbeats 40000000 in
set_option maxRecDepth 100000 in
theorem model_one (F : Interp) (x0 x1 x2 x3 x4 x5 pe pf : Int) (n : Nat) (pb cb m a s : Int) (a8 a9 a10 a11 : Option Addr) (n8 k8 n9 k9 n10 k10 n11 k11 : Nat) (w : World) (hF : F.answers w.tape)
    (b0 : 0 ≤ x0) (b0' : x0 < 256) (b1 : 0 ≤ x1) (b1' : x1 < 256) (b2 : 0 ≤ x2) (b2' : x2 < 256) (b3 : 0 ≤ x3) (b3' : x3 < 256) (b4 : 0 ≤ x4) (b4' : x4 < 256) (b5 : 0 ≤ x5) (b5' : x5 < 256)
    (hn : 1 + x0 % 4 = (n : Int)) (hpb : 1 + x1 % 8 = pb) (hcb : 1 + x2 % 8 = cb) (hm : x3 % 64 = m) (ha : x4 % 64 = a) (hs : x5 % 4 = s)
    (s8 : Src w a8 n8) (s9 : Src w a9 n9) (s10 : Src w a10 n10) (s11 : Src w a11 n11) (hs0 : s = 1) :
    Calls Ybaf.prog 5 #[.int .u8 x0, .int .u8 x1, .int .u8 x2, .int .u8 x3, .int .u8 x4, .int .u8 x5, .int .i64 pe, .int .i64 pf, .slice a8 n8 k8, .slice a9 n9 k9, .slice a10 n10 k10, .slice a11 n11 k11] w fun e w' => e = .returned (.bool true) ∧ Below w.heap.size w w' := by
  have hn1 : 0 < n := by omega
  have hn4 : n ≤ 4 := by omega
  have hp1 : 1 ≤ pb := by omega
  have hp2 : pb ≤ 8 := by omega
  have hc1 : 1 ≤ cb := by omega
  have hc2 : cb ≤ 8 := by omega
  have hm1 : 0 ≤ m := by omega
  have hm2 : m ≤ 64 := by omega
  have ha1 : 0 ≤ a := by omega
  have ha2 : a ≤ 64 := by omega
  have HF : Hid (F.answers w.tape) := hF
  have S8 := Hid.mk s8
  have S9 := Hid.mk s9
  have S10 := Hid.mk s10
  have S11 := Hid.mk s11
  clear hF s8 s9 s10 s11
  subst hs0
  go_enter Ybaf.func5, Ybaf.ntmps5
  go_wp2_with (first | (go_at_call 9; go_must (refine (new_any w.heap.size 0 n 4 (letters n) _ _ _ _ (letters_length n) hn1 (by omega) (letters_names n (by omega)) (letters_four n hn4 _ _ (by go_simp) (by go_simp) (by go_simp) (by go_simp))).mono ?_); rintro e w1 ⟨lb, nb, cp, rfl, hl0, hnm, hb1⟩; have K1 := Hid.mk (clk_mk (m := m) (a := a) (pb := pb) (cb := cb) (show n ≤ 8 by omega) hl0 hnm); have B1 : Hid (Below w.heap.size w w1) := Hid.mk (((Below.refl _ w).alloc (Nat.le_refl _) _).trans (hb1.mono (by simp))); clear hl0 hnm hb1))
  clear hn hpb hcb hm ha hs b0 b0' b1 b1' b2 b2' b3 b3' b4 b4' b5 b5'
  refine (vec_any a8 n8 k8 n _ (S8.out.later (by exact B1.out.alloc B1.out.size _)) (by omega)).mono ?_
  rintro e w2 ⟨p1, rfl, R1, hb2⟩
  have K2 := Hid.mk (K1.out.later hb2)
  have B2 : Hid (Below w.heap.size w w2) := Hid.mk ((B1.out.alloc B1.out.size _).trans (hb2.mono (by have := B1.out.size; simp; omega)))
  have hlt1 : w1.heap.size < w2.heap.size := by have := hb2.size; simp at this; omega
  have Q1 : Hid (IntRow w2 (w1.heap.size + 1) n p1) := Hid.mk (by simpa using R1)
  clear hb2 R1 K1 B1
  go_wp2_with fail
  refine (vec_any a9 n9 k9 n _ (S9.out.later B2.out) (by omega)).mono ?_
  rintro e w3 ⟨c1, rfl, R2, hb3⟩
  have K3 := Hid.mk (K2.out.later hb3)
  have B3 : Hid (Below w.heap.size w w3) := Hid.mk (B2.out.trans (hb3.mono B2.out.size))
  have Q1 := Hid.mk (Q1.out.later hb3)
  have Q2 := Hid.mk R2
  clear hb3 R2 K2 B2
  go_wp2_with fail
  have hlt3 : w2.heap.size < w3.heap.size := Q2.out.lt
  refine (vec_any a10 n10 k10 n _ (S10.out.later (by exact B3.out.alloc B3.out.size _)) (by omega)).mono ?_
  rintro e w4 ⟨p2, rfl, R3, hb4⟩
  have bb4 : Below w3.heap.size w3 w4 := ((Below.refl _ w3).alloc (Nat.le_refl _) _).trans (hb4.mono (by simp))
  have K4 := Hid.mk (K3.out.later bb4)
  have B4 : Hid (Below w.heap.size w w4) := Hid.mk (B3.out.trans (bb4.mono B3.out.size))
  have Q1 := Hid.mk (Q1.out.later bb4)
  have Q2 := Hid.mk (Q2.out.later bb4)
  have Q3 : Hid (IntRow w4 (w3.heap.size + 1) n p2) := Hid.mk (by simpa using R3)
  have E0 : w4.cell? ⟨w3.heap.size, 0, none⟩ = some (.int .i64 pe) := cell_later hb4 (by go_simp)
  have E1 : w4.cell? ⟨w3.heap.size, 1, none⟩ = some (.slice (some ⟨w1.heap.size + 1, 0, none⟩) n n) := cell_later hb4 (by go_simp)
  have E2 : w4.cell? ⟨w3.heap.size, 2, none⟩ = some (.slice (some ⟨w2.heap.size, 0, none⟩) n n) := cell_later hb4 (by go_simp)
  have hlt4 : w3.heap.size < w4.heap.size := World.block_lt_of_cell? _ _ E0
  have EF : w4.frozen? ⟨w3.heap.size, 2, none⟩ = false := by rw [hb4.frozen (p := ⟨w3.heap.size, 2, none⟩) (by simp)]; go_simp
  have lbl : lb < w3.heap.size := World.block_lt_of_cell? _ _ K3.out.l0
  have nbl : nb < w3.heap.size := World.block_lt_of_cell? _ _ (K3.out.name 0 (by rw [letters_length]; exact hn1))
  have HZ3 : Hid (w.heap.size ≤ w3.heap.size) := Hid.mk B3.out.size
  clear hb4 bb4 R3 K3 B3
  go_wp2_with fail
  refine (vec_any a11 n11 k11 n _ (S11.out.later B4.out) (by omega)).mono ?_
  rintro e w5 ⟨c2, rfl, R4, hb5⟩
  have K5 := Hid.mk (K4.out.later hb5)
  have B5 : Hid (Below w.heap.size w w5) := Hid.mk (B4.out.trans (hb5.mono B4.out.size))
  have Q1 := Hid.mk (Q1.out.later hb5)
  have Q2 := Hid.mk (Q2.out.later hb5)
  have Q3 := Hid.mk (Q3.out.later hb5)
  have Q4 := Hid.mk R4
  have EF : w5.frozen? ⟨w3.heap.size, 2, none⟩ = false := by rw [hb5.frozen (p := ⟨w3.heap.size, 2, none⟩) hlt4]; exact EF
  have E0 := cell_later hb5 E0
  have E1 := cell_later hb5 E1
  have E2 := cell_later hb5 E2
  clear hb5 R4 K4 B4
  have hlt5 : w4.heap.size < w5.heap.size := Q4.out.lt
  have hE5 : w3.heap.size < w5.heap.size := by omega
  obtain ⟨i, hi, hz0', hz1', hz2'⟩ := info_parts info3
  have bF : Below w5.heap.size w5 ((w5.alloc (.cells #[.int .i64 pf, .slice (some ⟨w3.heap.size + 1, 0, none⟩) n n, .slice (some ⟨w4.heap.size, 0, none⟩) n n] 30)).alloc (.cells #[.int .i64 0] 3)) := ((Below.refl _ w5).alloc (Nat.le_refl _) _).alloc (by simp) _
  have KF := Hid.mk (K5.out.later bF)
  have BF : Hid (Below w.heap.size w ((w5.alloc (.cells #[.int .i64 pf, .slice (some ⟨w3.heap.size + 1, 0, none⟩) n n, .slice (some ⟨w4.heap.size, 0, none⟩) n n] 30)).alloc (.cells #[.int .i64 0] 3))) := Hid.mk (B5.out.trans (bF.mono B5.out.size))
  have Q2 := Hid.mk (Q2.out.later bF)
  have N0 : Hid (((w5.alloc (.cells #[.int .i64 pf, .slice (some ⟨w3.heap.size + 1, 0, none⟩) n n, .slice (some ⟨w4.heap.size, 0, none⟩) n n] 30)).alloc (.cells #[.int .i64 0] 3)).cell? ⟨w5.heap.size + 1, 0, none⟩ = some (.int .i64 0)) := Hid.mk (by go_simp)
  have G0 := Hid.mk (cell_later bF E0)
  have G1 := Hid.mk (cell_later bF E1)
  have G2 := Hid.mk (cell_later bF E2)
  have GF : Hid (∀ o, ((w5.alloc (.cells #[.int .i64 pf, .slice (some ⟨w3.heap.size + 1, 0, none⟩) n n, .slice (some ⟨w4.heap.size, 0, none⟩) n n] 30)).alloc (.cells #[.int .i64 0] 3)).frozen? ⟨w3.heap.size, o, none⟩ = w5.frozen? ⟨w3.heap.size, o, none⟩) := Hid.mk (fun o => bF.frozen (p := ⟨w3.heap.size, o, none⟩) hE5)
  have F0 : Hid (((w5.alloc (.cells #[.int .i64 pf, .slice (some ⟨w3.heap.size + 1, 0, none⟩) n n, .slice (some ⟨w4.heap.size, 0, none⟩) n n] 30)).alloc (.cells #[.int .i64 0] 3)).cell? ⟨w5.heap.size, 0, none⟩ = some (.int .i64 pf)) := Hid.mk (by go_simp)
  have F1 : Hid (((w5.alloc (.cells #[.int .i64 pf, .slice (some ⟨w3.heap.size + 1, 0, none⟩) n n, .slice (some ⟨w4.heap.size, 0, none⟩) n n] 30)).alloc (.cells #[.int .i64 0] 3)).cell? ⟨w5.heap.size, 1, none⟩ = some (.slice (some ⟨w3.heap.size + 1, 0, none⟩) n n)) := Hid.mk (by go_simp)
  have F2 : Hid (((w5.alloc (.cells #[.int .i64 pf, .slice (some ⟨w3.heap.size + 1, 0, none⟩) n n, .slice (some ⟨w4.heap.size, 0, none⟩) n n] 30)).alloc (.cells #[.int .i64 0] 3)).cell? ⟨w5.heap.size, 2, none⟩ = some (.slice (some ⟨w4.heap.size, 0, none⟩) n n)) := Hid.mk (by go_simp)
  clear K5 B5 Q1 Q3 Q4
  go_wp2_with (at_builtin; go_must (refine wpList_append_grows _ rfl _ _ 22 rfl 3 i (.int .i64 0) 1 8 Ybaf.underlying22 hi hz0' hz1' hz2' rfl (by omega) (some ⟨w2.heap.size, 0, none⟩) n n (c1.map (Value.int .i64)) rfl (by intro h; cases h) (by simp [Q2.out.2]) ?d1 ⟨w5.heap.size + 1, 0, none⟩ 1 1 [.int .i64 0] rfl rfl ?d2 (by intro u hu; simp at hu; subst hu; rfl) (by omega) (by unfold maxLen; omega) (by omega) ?_))
  case d1 =>
    intro b hb j u hu
    cases hb
    rw [Addr.add_lit]
    rw [List.getElem?_map] at hu
    obtain ⟨zz, hz1, rfl⟩ := Option.map_eq_some_iff.1 hu
    obtain ⟨hj, hz2⟩ := List.getElem?_eq_some_iff.1 hz1
    have := Q2.out.ints j (by have := Q2.out.2; omega)
    rw [this]
    simp [List.getD, hz1]
  case d2 =>
    intro j u hj
    match j, hj with
    | 0, hj =>
      simp at hj
      subst hj
      rw [Addr.add_lit]
      exact N0.out
  intro v6 w6 hown6 hgr6
  obtain ⟨g6, cap6, rfl⟩ := ints_shape hown6 (by omega)
  have b6 := (Below.refl _ _).grown hgr6 (Nat.le_refl _) (fun k hk => by cases hk)
  have K6 := Hid.mk (KF.out.later b6)
  have B6 : Hid (Below w.heap.size w w6) := Hid.mk (BF.out.trans (b6.mono BF.out.size))
  have E0 := cell_later b6 G0.out
  have E1 := cell_later b6 G1.out
  have E2 := cell_later b6 G2.out
  have F0 := cell_later b6 F0.out
  have F1 := cell_later b6 F1.out
  have F2 := cell_later b6 F2.out
  have EF6 : w6.frozen? ⟨w3.heap.size, 2, none⟩ = false := by rw [b6.frozen (p := ⟨w3.heap.size, 2, none⟩) (by simp; omega), GF.out 2]; exact EF
  have hw56 : w5.heap.size < w6.heap.size := World.block_lt_of_cell? _ _ F0
  have ne53 : ¬ w3.heap.size = w5.heap.size := by omega
  have ne35 : ¬ w5.heap.size = w3.heap.size := by omega
  have bS : Below w3.heap.size w6 (w6.setCell ⟨w3.heap.size, 2, none⟩ (.slice (some ⟨g6, 0, none⟩) (n + 1) cap6)) := (Below.refl _ w6).setCell (p := ⟨w3.heap.size, 2, none⟩) (Nat.le_refl _) _
  have K7 := Hid.mk (K6.out.under bS (by omega) lbl nbl)
  have hsz3 : w.heap.size ≤ w3.heap.size := HZ3.out
  have B7 : Hid (Below w.heap.size w (w6.setCell ⟨w3.heap.size, 2, none⟩ (.slice (some ⟨g6, 0, none⟩) (n + 1) cap6))) := Hid.mk (B6.out.trans (bS.mono hsz3))
  have FF : Hid (F.answers (w6.setCell ⟨w3.heap.size, 2, none⟩ (.slice (some ⟨g6, 0, none⟩) (n + 1) cap6)).tape) := Hid.mk (by rw [B7.out.tape]; exact HF.out)
  clear hgr6 b6 hown6 K6 KF BF G0 G1 G2 GF N0 Q2 B6 bS EF
  go_wp2_with fail
  refine (hb_e F w1.heap.size lb nb cp n (letters n) m a pb cb pe pf _ _ _ _ n n (n + 1) cap6 n n n n _ FF.out K7.out (.inr (.inr (by omega)))).mono ?_
  rintro e w8 ⟨⟨er, rfl⟩, hb8⟩
  have B8 : Hid (Below w.heap.size w w8) := Hid.mk (B7.out.trans (hb8.mono B7.out.size))
  clear hb8
  go_wp2
  go_ret
  exact ⟨rfl, B8.out⟩
end Go.Proofs.YbulkoksFmt
