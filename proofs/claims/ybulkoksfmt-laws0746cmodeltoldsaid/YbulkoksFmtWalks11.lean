import Derived.Test.YbulkoksFmtWalks10
import Derived.Deep.RegionWith
set_option linter.unusedVariables false
namespace Go.Proofs.YbulkoksFmt
open Go.RowKit Go.Extern.Stop Go.Stop Go.Extern

theorem letters_four (n : Nat) (hn : n ≤ 4) (w : World) (b : Nat) (h0 : w.cell? ⟨b, 0, none⟩ = some (.string ⟨#[97]⟩)) (h1 : w.cell? ⟨b, 1, none⟩ = some (.string ⟨#[98]⟩)) (h2 : w.cell? ⟨b, 2, none⟩ = some (.string ⟨#[99]⟩)) (h3 : w.cell? ⟨b, 3, none⟩ = some (.string ⟨#[100]⟩)) :
    StrsAt w b 0 (letters n) := by
  intro j u hu
  rw [List.getElem?_map] at hu
  obtain ⟨x, hx, rfl⟩ := Option.map_eq_some_iff.1 hu
  obtain ⟨hj, hx2⟩ := List.getElem?_eq_some_iff.1 hx
  rw [letters_length] at hj
  have e := letters_at n j hj
  have e2 : (letters n).getD j ByteArray.empty = x := by simp [List.getD, hx]
  rw [e2] at e
  subst e
  rw [Nat.zero_add]
  have : j = 0 ∨ j = 1 ∨ j = 2 ∨ j = 3 := by omega
  rcases this with rfl | rfl | rfl | rfl
  · exact h0
  · exact h1
  · exact h2
  · exact h3

theorem clk_mk {w1 : World} {lb nb cp n : Nat} {m a pb cb : Int} (hn : n ≤ 8) (hl0 : w1.cell? ⟨lb, 0, none⟩ = some (.slice (some ⟨nb, 0, none⟩) n cp)) (hnm : ∀ j (hj : j < (letters n).length), w1.cell? ⟨nb, j, none⟩ = some (.string (letters n)[j])) :
    Clk (w1.alloc (.cells #[.pointer (some ⟨lb, 0, none⟩), .int .i64 m, .int .i64 a, .int .i64 1, .int .i64 pb, .int .i64 cb] 42)) w1.heap.size lb nb cp n (letters n) m a pb cb := by
  have hbx := (Below.refl w1.heap.size w1).alloc (Nat.le_refl _) (.cells #[.pointer (some ⟨lb, 0, none⟩), .int .i64 m, .int .i64 a, .int .i64 1, .int .i64 pb, .int .i64 cb] 42)
  exact ⟨by go_simp, by go_simp, by go_simp, by go_simp, by go_simp, cell_later hbx hl0, letters_length n, hn, fun j hj => cell_later hbx (hnm j hj)⟩

set_option maxHeartbeats 40000000 in
set_option maxRecDepth 100000 in
theorem model_plain (F : Interp) (x0 x1 x2 x3 x4 x5 pe pf : Int) (n : Nat) (pb cb m a s : Int) (a8 a9 a10 a11 : Option Addr) (n8 k8 n9 k9 n10 k10 n11 k11 : Nat) (w : World) (hF : F.answers w.tape)
    (b0 : 0 ≤ x0) (b0' : x0 < 256) (b1 : 0 ≤ x1) (b1' : x1 < 256) (b2 : 0 ≤ x2) (b2' : x2 < 256) (b3 : 0 ≤ x3) (b3' : x3 < 256) (b4 : 0 ≤ x4) (b4' : x4 < 256) (b5 : 0 ≤ x5) (b5' : x5 < 256)
    (hn : 1 + x0 % 4 = (n : Int)) (hpb : 1 + x1 % 8 = pb) (hcb : 1 + x2 % 8 = cb) (hm : x3 % 64 = m) (ha : x4 % 64 = a) (hs : x5 % 4 = s)
    (s8 : Src w a8 n8) (s9 : Src w a9 n9) (s10 : Src w a10 n10) (s11 : Src w a11 n11) (hs1 : (s == 1) = false) (hs2 : (s == 2) = false) :
    Calls Ybaf.prog 5 #[.int .u8 x0, .int .u8 x1, .int .u8 x2, .int .u8 x3, .int .u8 x4, .int .u8 x5, .int .i64 pe, .int .i64 pf, .slice a8 n8 k8, .slice a9 n9 k9, .slice a10 n10 k10, .slice a11 n11 k11] w fun e w' => e = .returned (.bool true) ∧ Below w.heap.size w w' := by
  have hn1 : 0 < n := by omega
  have hn4 : n ≤ 4 := by omega
  have hp1 : 1 ≤ pb := by omega
  have hp2 : pb ≤ 8 := by omega
  have hc1 : 1 ≤ cb := by omega
  have hc2 : cb ≤ 8 := by omega
  have hm1 : 0 ≤ m := by omega
  have hm2 : m ≤ 64 := by omega
  have ha1 : 0 ≤ a := by omega
  have ha2 : a ≤ 64 := by omega
  have HF : Hid (F.answers w.tape) := hF
  have S8 := Hid.mk s8
  have S9 := Hid.mk s9
  have S10 := Hid.mk s10
  have S11 := Hid.mk s11
  clear hF s8 s9 s10 s11
  go_enter Ybaf.func5, Ybaf.ntmps5
  go_wp2_with (first | (go_at_call 9; go_must (refine (new_any w.heap.size 0 n 4 (letters n) _ _ _ _ (letters_length n) hn1 (by omega) (letters_names n (by omega)) (letters_four n hn4 _ _ (by go_simp) (by go_simp) (by go_simp) (by go_simp))).mono ?_); rintro e w1 ⟨lb, nb, cp, rfl, hl0, hnm, hb1⟩; have K1 := Hid.mk (clk_mk (m := m) (a := a) (pb := pb) (cb := cb) (show n ≤ 8 by omega) hl0 hnm); have B1 : Hid (Below w.heap.size w w1) := Hid.mk (((Below.refl _ w).alloc (Nat.le_refl _) _).trans (hb1.mono (by simp))); clear hl0 hnm hb1))
  clear hn hpb hcb hm ha hs b0 b0' b1 b1' b2 b2' b3 b3' b4 b4' b5 b5'
  refine (vec_any a8 n8 k8 n _ (S8.out.later (by exact B1.out.alloc B1.out.size _)) (by omega)).mono ?_
  rintro e w2 ⟨p1, rfl, R1, hb2⟩
  have K2 := Hid.mk (K1.out.later hb2)
  have B2 : Hid (Below w.heap.size w w2) := Hid.mk ((B1.out.alloc B1.out.size _).trans (hb2.mono (by have := B1.out.size; simp; omega)))
  have hlt1 : w1.heap.size < w2.heap.size := by have := hb2.size; simp at this; omega
  have Q1 : Hid (IntRow w2 (w1.heap.size + 1) n p1) := Hid.mk (by simpa using R1)
  clear hb2 R1 K1 B1
  go_wp2_with fail
  refine (vec_any a9 n9 k9 n _ (S9.out.later B2.out) (by omega)).mono ?_
  rintro e w3 ⟨c1, rfl, R2, hb3⟩
  have K3 := Hid.mk (K2.out.later hb3)
  have B3 : Hid (Below w.heap.size w w3) := Hid.mk (B2.out.trans (hb3.mono B2.out.size))
  have Q1 := Hid.mk (Q1.out.later hb3)
  have Q2 := Hid.mk R2
  clear hb3 R2 K2 B2
  go_wp2_with fail
  have hlt3 : w2.heap.size < w3.heap.size := Q2.out.lt
  refine (vec_any a10 n10 k10 n _ (S10.out.later (by exact B3.out.alloc B3.out.size _)) (by omega)).mono ?_
  rintro e w4 ⟨p2, rfl, R3, hb4⟩
  have bb4 : Below w3.heap.size w3 w4 := ((Below.refl _ w3).alloc (Nat.le_refl _) _).trans (hb4.mono (by simp))
  have K4 := Hid.mk (K3.out.later bb4)
  have B4 : Hid (Below w.heap.size w w4) := Hid.mk (B3.out.trans (bb4.mono B3.out.size))
  have Q1 := Hid.mk (Q1.out.later bb4)
  have Q2 := Hid.mk (Q2.out.later bb4)
  have Q3 : Hid (IntRow w4 (w3.heap.size + 1) n p2) := Hid.mk (by simpa using R3)
  have E0 : w4.cell? ⟨w3.heap.size, 0, none⟩ = some (.int .i64 pe) := cell_later hb4 (by go_simp)
  have E1 : w4.cell? ⟨w3.heap.size, 1, none⟩ = some (.slice (some ⟨w1.heap.size + 1, 0, none⟩) n n) := cell_later hb4 (by go_simp)
  have E2 : w4.cell? ⟨w3.heap.size, 2, none⟩ = some (.slice (some ⟨w2.heap.size, 0, none⟩) n n) := cell_later hb4 (by go_simp)
  have hlt4 : w3.heap.size < w4.heap.size := World.block_lt_of_cell? _ _ E0
  clear hb4 bb4 R3 K3 B3
  go_wp2_with fail
  refine (vec_any a11 n11 k11 n _ (S11.out.later B4.out) (by omega)).mono ?_
  rintro e w5 ⟨c2, rfl, R4, hb5⟩
  have K5 := Hid.mk (K4.out.later hb5)
  have B5 : Hid (Below w.heap.size w w5) := Hid.mk (B4.out.trans (hb5.mono B4.out.size))
  have Q1 := Hid.mk (Q1.out.later hb5)
  have Q2 := Hid.mk (Q2.out.later hb5)
  have Q3 := Hid.mk (Q3.out.later hb5)
  have Q4 := Hid.mk R4
  have E0 := cell_later hb5 E0
  have E1 := cell_later hb5 E1
  have E2 := cell_later hb5 E2
  clear hb5 R4 K4 B4
  have hlt5 : w4.heap.size < w5.heap.size := Q4.out.lt
  have hE5 : w3.heap.size < w5.heap.size := by omega
  go_wp2_with fail
  have bF : Below w5.heap.size w5 (w5.alloc (.cells #[.int .i64 pf, .slice (some ⟨w3.heap.size + 1, 0, none⟩) n n, .slice (some ⟨w4.heap.size, 0, none⟩) n n] 30)) := (Below.refl _ w5).alloc (Nat.le_refl _) _
  have KF := Hid.mk (K5.out.later bF)
  have BF : Hid (Below w.heap.size w (w5.alloc (.cells #[.int .i64 pf, .slice (some ⟨w3.heap.size + 1, 0, none⟩) n n, .slice (some ⟨w4.heap.size, 0, none⟩) n n] 30))) := Hid.mk (B5.out.trans (bF.mono B5.out.size))
  have I1 := Hid.mk (Q1.out.later bF).ints
  have I2 := Hid.mk (Q2.out.later bF).ints
  have I3 := Hid.mk (Q3.out.later bF).ints
  have I4 := Hid.mk (Q4.out.later bF).ints
  have FF : Hid (F.answers (w5.alloc (.cells #[.int .i64 pf, .slice (some ⟨w3.heap.size + 1, 0, none⟩) n n, .slice (some ⟨w4.heap.size, 0, none⟩) n n] 30)).tape) := Hid.mk (by rw [BF.out.tape]; exact HF.out)
  have E0 := cell_later bF E0
  have E1 := cell_later bF E1
  have E2 := cell_later bF E2
  have F0 : (w5.alloc (.cells #[.int .i64 pf, .slice (some ⟨w3.heap.size + 1, 0, none⟩) n n, .slice (some ⟨w4.heap.size, 0, none⟩) n n] 30)).cell? ⟨w5.heap.size, 0, none⟩ = some (.int .i64 pf) := by go_simp
  have F1 : (w5.alloc (.cells #[.int .i64 pf, .slice (some ⟨w3.heap.size + 1, 0, none⟩) n n, .slice (some ⟨w4.heap.size, 0, none⟩) n n] 30)).cell? ⟨w5.heap.size, 1, none⟩ = some (.slice (some ⟨w3.heap.size + 1, 0, none⟩) n n) := by go_simp
  have F2 : (w5.alloc (.cells #[.int .i64 pf, .slice (some ⟨w3.heap.size + 1, 0, none⟩) n n, .slice (some ⟨w4.heap.size, 0, none⟩) n n] 30)).cell? ⟨w5.heap.size, 2, none⟩ = some (.slice (some ⟨w4.heap.size, 0, none⟩) n n) := by go_simp
  clear K5 B5 Q1 Q2 Q3 Q4 bF
  generalize w5.alloc (.cells #[.int .i64 pf, .slice (some ⟨w3.heap.size + 1, 0, none⟩) n n, .slice (some ⟨w4.heap.size, 0, none⟩) n n] 30) = W5 at KF BF I1 I2 I3 I4 FF E0 E1 E2 F0 F1 F2 ⊢
  by_cases hpe1 : pe < 0
  · refine (hb_e F w1.heap.size lb nb cp n (letters n) m a pb cb pe pf _ _ _ _ n n n n n n n n _ FF.out KF.out (.inl (.inl hpe1))).mono ?_
    rintro e w6 ⟨⟨er, rfl⟩, hb6⟩
    have B6 : Hid (Below w.heap.size w w6) := Hid.mk (BF.out.trans (hb6.mono BF.out.size))
    clear hb6 E0 E1 E2 F0 F1 F2
    go_wp2
    go_ret
    exact ⟨rfl, B6.out⟩
  by_cases hpe2 : (n : Int) ≤ pe
  · refine (hb_e F w1.heap.size lb nb cp n (letters n) m a pb cb pe pf _ _ _ _ n n n n n n n n _ FF.out KF.out (.inl (.inr hpe2))).mono ?_
    rintro e w6 ⟨⟨er, rfl⟩, hb6⟩
    have B6 : Hid (Below w.heap.size w w6) := Hid.mk (BF.out.trans (hb6.mono BF.out.size))
    clear hb6 E0 E1 E2 F0 F1 F2
    go_wp2
    go_ret
    exact ⟨rfl, B6.out⟩
  by_cases hpf1 : pf < 0
  · refine (hb_f F w1.heap.size lb nb cp n (letters n) m a pb cb pe pf _ _ _ _ n n n n n n _ FF.out KF.out (by omega) (by omega) (.inl (.inl hpf1))).mono ?_
    rintro e w6 ⟨⟨er, rfl⟩, hb6⟩
    have B6 : Hid (Below w.heap.size w w6) := Hid.mk (BF.out.trans (hb6.mono BF.out.size))
    clear hb6 E0 E1 E2 F0 F1 F2
    go_wp2
    go_ret
    exact ⟨rfl, B6.out⟩
  by_cases hpf2 : (n : Int) ≤ pf
  · refine (hb_f F w1.heap.size lb nb cp n (letters n) m a pb cb pe pf _ _ _ _ n n n n n n _ FF.out KF.out (by omega) (by omega) (.inl (.inr hpf2))).mono ?_
    rintro e w6 ⟨⟨er, rfl⟩, hb6⟩
    have B6 : Hid (Below w.heap.size w w6) := Hid.mk (BF.out.trans (hb6.mono BF.out.size))
    clear hb6 E0 E1 E2 F0 F1 F2
    go_wp2
    go_ret
    exact ⟨rfl, B6.out⟩
  obtain ⟨j, rfl⟩ := Int.eq_ofNat_of_zero_le (show 0 ≤ pe by omega)
  have hj : j < n := by omega
  have hjn : (j : Int) < (n : Int) := by omega
  have q1 := I1.out j hj
  have q2 := I2.out j hj
  have q3 := I3.out j hj
  have q4 := I4.out j hj
  rw [Nat.zero_add] at q1 q2 q3 q4
  have BAD1 := Hid.mk (fun hg => hb_bad1 F w1.heap.size lb nb cp n (letters n) m a pb cb pf _ n _ n _ n _ n j p1 c1 p2 c2 W5 FF.out KF.out hj (by omega) (by omega) I1.out I2.out I3.out I4.out hg)
  have BAD2 := Hid.mk (fun hg1 hg => hb_bad2 F w1.heap.size lb nb cp n (letters n) m a pb cb pf _ n _ n _ n _ n j p1 c1 p2 c2 W5 FF.out KF.out hj (by omega) (by omega) I1.out I2.out I3.out I4.out hg1 hg)
  have OK := Hid.mk (fun hg1 hg => hb_ok w1.heap.size lb nb cp n (letters n) m a pb cb pf _ n _ n _ n _ n j p1 c1 p2 c2 W5 KF.out hj (by omega) (by omega) I1.out I2.out I3.out I4.out hg1 hg (by omega) (by omega) hm1 ha1)
  simp only [Good] at BAD1 BAD2 OK
  clear I1 I2 I3 I4 KF FF
  generalize p1.getD j 0 = y1 at q1 BAD1 BAD2 OK
  generalize c1.getD j 0 = y2 at q2 BAD1 BAD2 OK
  generalize p2.getD j 0 = y3 at q3 BAD1 BAD2 OK
  generalize c2.getD j 0 = y4 at q4 BAD1 BAD2 OK
  by_cases g0 : y1 < 0
  · refine (BAD1.out (by omega)).mono ?_
    rintro e w6 ⟨⟨er, rfl⟩, hb6⟩
    have B6 : Hid (Below w.heap.size w w6) := Hid.mk (BF.out.trans (hb6.mono BF.out.size))
    have E0 := cell_later hb6 E0
    have E1 := cell_later hb6 E1
    have E2 := cell_later hb6 E2
    have F0 := cell_later hb6 F0
    have F1 := cell_later hb6 F1
    have F2 := cell_later hb6 F2
    have q1 := cell_later hb6 q1
    have q2 := cell_later hb6 q2
    have q3 := cell_later hb6 q3
    have q4 := cell_later hb6 q4
    clear hb6
    go_wp2_with fail
    go_quiet (fail)
    go_wp2_with fail
    go_quiet (fail)
    go_wp2
    go_ret
    exact ⟨rfl, bel_drewN B6.out _⟩
  by_cases g0' : pb ≤ y1
  · have gd : decide (y1 < pb) = false := by simp; omega
    refine (BAD1.out (by omega)).mono ?_
    rintro e w6 ⟨⟨er, rfl⟩, hb6⟩
    have B6 : Hid (Below w.heap.size w w6) := Hid.mk (BF.out.trans (hb6.mono BF.out.size))
    have E0 := cell_later hb6 E0
    have E1 := cell_later hb6 E1
    have E2 := cell_later hb6 E2
    have F0 := cell_later hb6 F0
    have F1 := cell_later hb6 F1
    have F2 := cell_later hb6 F2
    have q1 := cell_later hb6 q1
    have q2 := cell_later hb6 q2
    have q3 := cell_later hb6 q3
    have q4 := cell_later hb6 q4
    clear hb6
    go_wp2_with fail
    go_quiet (fail)
    go_wp2_with fail
    go_quiet (fail)
    go_wp2
    go_ret
    exact ⟨rfl, bel_drewN B6.out _⟩
  by_cases g1 : y2 < 0
  · refine (BAD1.out (by omega)).mono ?_
    rintro e w6 ⟨⟨er, rfl⟩, hb6⟩
    have B6 : Hid (Below w.heap.size w w6) := Hid.mk (BF.out.trans (hb6.mono BF.out.size))
    have E0 := cell_later hb6 E0
    have E1 := cell_later hb6 E1
    have E2 := cell_later hb6 E2
    have F0 := cell_later hb6 F0
    have F1 := cell_later hb6 F1
    have F2 := cell_later hb6 F2
    have q1 := cell_later hb6 q1
    have q2 := cell_later hb6 q2
    have q3 := cell_later hb6 q3
    have q4 := cell_later hb6 q4
    clear hb6
    go_wp2_with fail
    go_quiet (fail)
    go_wp2_with fail
    go_quiet (fail)
    go_wp2
    go_ret
    exact ⟨rfl, bel_drewN B6.out _⟩
  by_cases g1' : cb ≤ y2
  · have gd : decide (y2 < cb) = false := by simp; omega
    refine (BAD1.out (by omega)).mono ?_
    rintro e w6 ⟨⟨er, rfl⟩, hb6⟩
    have B6 : Hid (Below w.heap.size w w6) := Hid.mk (BF.out.trans (hb6.mono BF.out.size))
    have E0 := cell_later hb6 E0
    have E1 := cell_later hb6 E1
    have E2 := cell_later hb6 E2
    have F0 := cell_later hb6 F0
    have F1 := cell_later hb6 F1
    have F2 := cell_later hb6 F2
    have q1 := cell_later hb6 q1
    have q2 := cell_later hb6 q2
    have q3 := cell_later hb6 q3
    have q4 := cell_later hb6 q4
    clear hb6
    go_wp2_with fail
    go_quiet (fail)
    go_wp2_with fail
    go_quiet (fail)
    go_wp2
    go_ret
    exact ⟨rfl, bel_drewN B6.out _⟩
  by_cases g2 : y3 < 0
  · refine (BAD2.out (by omega) (by omega)).mono ?_
    rintro e w6 ⟨⟨er, rfl⟩, hb6⟩
    have B6 : Hid (Below w.heap.size w w6) := Hid.mk (BF.out.trans (hb6.mono BF.out.size))
    have E0 := cell_later hb6 E0
    have E1 := cell_later hb6 E1
    have E2 := cell_later hb6 E2
    have F0 := cell_later hb6 F0
    have F1 := cell_later hb6 F1
    have F2 := cell_later hb6 F2
    have q1 := cell_later hb6 q1
    have q2 := cell_later hb6 q2
    have q3 := cell_later hb6 q3
    have q4 := cell_later hb6 q4
    clear hb6
    go_wp2_with fail
    go_quiet (fail)
    go_wp2_with fail
    go_quiet (fail)
    go_wp2
    go_ret
    exact ⟨rfl, bel_drewN B6.out _⟩
  by_cases g2' : pb ≤ y3
  · have gd : decide (y3 < pb) = false := by simp; omega
    refine (BAD2.out (by omega) (by omega)).mono ?_
    rintro e w6 ⟨⟨er, rfl⟩, hb6⟩
    have B6 : Hid (Below w.heap.size w w6) := Hid.mk (BF.out.trans (hb6.mono BF.out.size))
    have E0 := cell_later hb6 E0
    have E1 := cell_later hb6 E1
    have E2 := cell_later hb6 E2
    have F0 := cell_later hb6 F0
    have F1 := cell_later hb6 F1
    have F2 := cell_later hb6 F2
    have q1 := cell_later hb6 q1
    have q2 := cell_later hb6 q2
    have q3 := cell_later hb6 q3
    have q4 := cell_later hb6 q4
    clear hb6
    go_wp2_with fail
    go_quiet (fail)
    go_wp2_with fail
    go_quiet (fail)
    go_wp2
    go_ret
    exact ⟨rfl, bel_drewN B6.out _⟩
  by_cases g3 : y4 < 0
  · refine (BAD2.out (by omega) (by omega)).mono ?_
    rintro e w6 ⟨⟨er, rfl⟩, hb6⟩
    have B6 : Hid (Below w.heap.size w w6) := Hid.mk (BF.out.trans (hb6.mono BF.out.size))
    have E0 := cell_later hb6 E0
    have E1 := cell_later hb6 E1
    have E2 := cell_later hb6 E2
    have F0 := cell_later hb6 F0
    have F1 := cell_later hb6 F1
    have F2 := cell_later hb6 F2
    have q1 := cell_later hb6 q1
    have q2 := cell_later hb6 q2
    have q3 := cell_later hb6 q3
    have q4 := cell_later hb6 q4
    clear hb6
    go_wp2_with fail
    go_quiet (fail)
    go_wp2_with fail
    go_quiet (fail)
    go_wp2
    go_ret
    exact ⟨rfl, bel_drewN B6.out _⟩
  by_cases g3' : cb ≤ y4
  · have gd : decide (y4 < cb) = false := by simp; omega
    refine (BAD2.out (by omega) (by omega)).mono ?_
    rintro e w6 ⟨⟨er, rfl⟩, hb6⟩
    have B6 : Hid (Below w.heap.size w w6) := Hid.mk (BF.out.trans (hb6.mono BF.out.size))
    have E0 := cell_later hb6 E0
    have E1 := cell_later hb6 E1
    have E2 := cell_later hb6 E2
    have F0 := cell_later hb6 F0
    have F1 := cell_later hb6 F1
    have F2 := cell_later hb6 F2
    have q1 := cell_later hb6 q1
    have q2 := cell_later hb6 q2
    have q3 := cell_later hb6 q3
    have q4 := cell_later hb6 q4
    clear hb6
    go_wp2_with fail
    go_quiet (fail)
    go_wp2_with fail
    go_quiet (fail)
    go_wp2
    go_ret
    exact ⟨rfl, bel_drewN B6.out _⟩
  refine (OK.out (by omega) (by omega)).mono ?_
  rintro e w6 ⟨rfl, hb6⟩
  have B6 : Hid (Below w.heap.size w w6) := Hid.mk (BF.out.trans (hb6.mono BF.out.size))
  have E0 := cell_later hb6 E0
  have E1 := cell_later hb6 E1
  have E2 := cell_later hb6 E2
  have F0 := cell_later hb6 F0
  have F1 := cell_later hb6 F1
  have F2 := cell_later hb6 F2
  have q1 := cell_later hb6 q1
  have q2 := cell_later hb6 q2
  have q3 := cell_later hb6 q3
  have q4 := cell_later hb6 q4
  clear hb6
  rcases Int.lt_trichotomy y1 y3 with hlt | heq | hgt
  · have hw : want m a y1 y2 y3 y4 = decide (y3 < y1 + a) := by unfold want; rw [if_neg (by omega), if_pos hlt]
    go_wp2_with fail
    go_quiet (fail)
    go_wp2_with fail
    go_quiet (fail)
    go_wp2
    go_ret
    exact ⟨rfl, bel_drewN B6.out _⟩
  · subst heq
    have hw : want m a y1 y2 y1 y4 = decide (y2 ≤ y4) := by unfold want; rw [if_neg (by omega), if_neg (by omega)]
    go_wp2_with fail
    go_quiet (fail)
    go_wp2_with fail
    go_quiet (fail)
    go_wp2
    go_ret
    exact ⟨rfl, bel_drewN B6.out _⟩
  · have hw : want m a y1 y2 y3 y4 = decide (y3 + m ≤ y1) := by unfold want; rw [if_pos hgt]
    go_wp2_with fail
    go_quiet (fail)
    go_wp2_with fail
    go_quiet (fail)
    go_wp2
    go_ret
    exact ⟨rfl, bel_drewN B6.out _⟩
end Go.Proofs.YbulkoksFmt
