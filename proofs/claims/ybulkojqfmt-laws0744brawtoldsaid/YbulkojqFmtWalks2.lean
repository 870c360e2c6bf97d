import Derived.Test.YbulkojqFmtWalks1
import Derived.Test.YbulkojqFmtPlain
set_option linter.unusedVariables false
namespace Go.Proofs.YbulkojqFmt
open Go.RowKit Go.Extern.Stop Go.Stop Go.Extern

/-- The bytes l lie behind the slice 'ao, n, c', where the cut at 'off' is not at the capacity's end. -/
def Lies (w : World) (ao : Option Addr) (c off : Nat) (l : List UInt8) : Prop :=
  ¬ c = off → ∃ g o, ao = some ⟨g, o, none⟩ ∧ ∀ j (hj : j < l.length), w.cell? ⟨g, o + j, none⟩ = some (.int .u8 (l[j]).toNat)

theorem call_dec {w : World} {g o off n c : Nat} {l : List UInt8} (hl : l.length = n) (hon : off ≤ n) (hc : ∀ j (hj : j < l.length), w.cell? ⟨g, o + j, none⟩ = some (.int .u8 (l[j]).toNat)) :
    ∀ m, Calls Ybaf.prog 11 #[.slice (some ⟨g, o + off, none⟩) (n - off) (c - off)] (w.drewN m) fun e w' => e = .returned (.tuple #[.int .u64 (Lib.uvarintDec (l.drop off)).1, .int .i64 (Lib.uvarintDec (l.drop off)).2]) ∧ w' = w.drewN m := by
  intro m
  refine Ybaf.binary_Uvarint g (o + off) (n - off) (c - off) (l.drop off) (w.drewN m) (by simp; omega) ?_
  intro j hj
  have h := hc (off + j) (by simp at hj; omega)
  rw [World.cell?_drewN, Nat.add_assoc, h]
  simp

theorem last_cell {w : World} {g o off : Nat} {l : List UInt8} {k : Nat} (hc : ∀ j (hj : j < l.length), w.cell? ⟨g, o + j, none⟩ = some (.int .u8 (l[j]).toNat)) (hk : 1 ≤ k) (hkn : off + k ≤ l.length) :
    w.cell? ⟨g, o + (off + k - 1), none⟩ = some (.int .u8 (((l.drop off).getD (k - 1) 1).toNat : Nat)) := by
  have h := hc (off + k - 1) (by omega)
  rw [h]
  have e : (l.drop off).getD (k - 1) 1 = l[off + k - 1]'(by omega) := by
    rw [List.getD_eq_getElem?_getD, List.getElem?_drop, List.getElem?_eq_getElem (by omega)]
    simp
    congr 1
    omega
  rw [e]

theorem uv_some (b off n c : Nat) (ao : Option Addr) (l : List UInt8) (v k : Nat) (w : World)
    (h0 : w.cell? ⟨b, 0, none⟩ = some (.slice ao n c)) (h1 : w.cell? ⟨b, 1, none⟩ = some (.int .i64 off)) (hfz : w.frozen? ⟨b, 1, none⟩ = false) (hon : off ≤ n) (hnc : n ≤ c) (hm : c ≤ maxLen) (hl : l.length = n)
    (hA : Lies w ao c off l) (hd : dec (l.drop off) = some (v, k)) :
    Calls Ybaf.prog 9 #[.pointer (some ⟨b, 0, none⟩)] w fun e w' => e = .returned (.tuple #[.int .u64 v, .nilIface]) ∧ ∃ m, w' = (w.drewN m).setCell ⟨b, 1, none⟩ (.int .i64 ((off + k : Nat) : Int)) := by
  obtain ⟨e1, e2, hk1, hkl, hv, hnz⟩ := dec_some hd
  have hkl' : off + k ≤ n := by simp at hkl; omega
  have hne : ¬ c = off := by omega
  obtain ⟨g, o, rfl, hc⟩ := hA hne
  have hcall := call_dec (n := n) (c := c) hl hon hc
  rw [e1, e2] at hcall
  by_cases hk : k = 1
  · subst hk
    exact uv_one b off n c g o v w h0 h1 hfz (by omega) hnc hm hne hcall
  · have hlast := last_cell (k := k) (off := off) hc hk1 (by omega)
    refine uv_more b off n c g o v k _ w h0 h1 hfz hon hnc hm hne (by omega) hkl' hlast ?_ hcall
    have := hnz (by omega)
    simp only [beq_eq_false_iff_ne, ne_eq]
    omega

theorem uv_none (F : Interp) (b off n c : Nat) (ao : Option Addr) (l : List UInt8) (w : World) (hF : F.answers w.tape)
    (h0 : w.cell? ⟨b, 0, none⟩ = some (.slice ao n c)) (h1 : w.cell? ⟨b, 1, none⟩ = some (.int .i64 off)) (hon : off ≤ n) (hnc : n ≤ c) (hm : c ≤ maxLen) (hl : l.length = n)
    (hA : Lies w ao c off l) (hd : dec (l.drop off) = none) :
    Calls Ybaf.prog 9 #[.pointer (some ⟨b, 0, none⟩)] w fun e w' => ∃ er, e = .returned (.tuple #[.int .u64 0, er]) ∧ Refused w off er w' := by
  by_cases hne : c = off
  · obtain rfl : n = c := by omega
    subst hne
    exact uv_end F b _ ao w hF h0 h1 hm
  obtain ⟨g, o, rfl, hc⟩ := hA hne
  have hcall := call_dec (n := n) (c := c) hl hon hc
  rcases dec_none hd with e | e | ⟨k, e, hk, hkl, hz⟩
  · rw [e] at hcall
    exact uv_zero F b off n c g o _ w hF h0 h1 hon hnc hm hne hcall
  · exact uv_big F b off n c g o _ _ w hF h0 h1 hon hnc hm hne e hcall
  · rw [e] at hcall
    have hkl' : off + k ≤ n := by simp at hkl; omega
    have hlast := last_cell (k := k) (off := off) hc (by omega) (by omega)
    rw [hz] at hlast
    exact uv_long F b off n c g o _ k w hF h0 h1 hon hnc hm hne hk hkl' hlast hcall

/-- What a refusal leaves: a '*Error' at the offset; below B nothing has turned. -/
def RefusedB (B : Nat) (w : World) (off : Int) (e : Value) (w' : World) : Prop :=
  ∃ eb, e = .iface 43 (.pointer (some ⟨eb, 0, none⟩)) ∧ w'.cell? ⟨eb, 0, none⟩ = some (.int .i64 off) ∧ Below B w w'

theorem refusedB_of (B b m : Nat) (w : World) (u : Value) (off : Int) (t : ByteArray) (hB : B ≤ b) (hBw : B ≤ w.heap.size) :
    RefusedB B w off (.iface 43 (.pointer (some ⟨w.heap.size, 0, none⟩))) (((w.drewN m).setCell ⟨b, 1, none⟩ u).alloc (.cells #[.int .i64 off, .string t] 46)).drew := by
  refine ⟨w.heap.size, rfl, ?_, ?_⟩
  · have hs : ((w.drewN m).setCell ⟨b, 1, none⟩ u).heap.size = w.heap.size := by simp [World.setCell]
    generalize (w.drewN m).setCell ⟨b, 1, none⟩ u = W at hs ⊢
    rw [← hs]
    show (W.alloc (.cells #[.int .i64 off, .string t] 46)).cell? ⟨W.heap.size, 0, none⟩ = _
    go_simp
  · have h : Below B w (w.drewN m) := ⟨rfl, rfl, rfl, Nat.le_refl _, fun _ _ => rfl⟩
    exact ((h.setCell (p := ⟨b, 1, none⟩) hB _).alloc (by simpa [World.setCell] using hBw) _).drew

set_option maxHeartbeats 400000 in
/-- 'readSeqBelow' where the reader refuses. -/
theorem below_none (F : Interp) (b off n c : Nat) (ao : Option Addr) (l : List UInt8) (seq : Int) (w : World) (hF : F.answers w.tape)
    (h0 : w.cell? ⟨b, 0, none⟩ = some (.slice ao n c)) (h1 : w.cell? ⟨b, 1, none⟩ = some (.int .i64 off)) (hon : off ≤ n) (hnc : n ≤ c) (hm : c ≤ maxLen) (hl : l.length = n)
    (hA : Lies w ao c off l) (hd : dec (l.drop off) = none) :
    Calls Ybaf.prog 6 #[.pointer (some ⟨b, 0, none⟩), .int .u64 seq] w fun e w' => ∃ er, e = .returned (.tuple #[.int .u64 0, er]) ∧ RefusedB w.heap.size w off er w' := by
  have hu := uv_none F b off n c ao l w hF h0 h1 hon hnc hm hl hA hd
  have HU : Hid (Calls Ybaf.prog 9 #[.pointer (some ⟨b, 0, none⟩)] w fun e w' => ∃ er, e = .returned (.tuple #[.int .u64 0, er]) ∧ Refused w off er w') := hu
  clear hu hA hd hF
  go_enter Ybaf.func6, Ybaf.ntmps6
  go_wp2_with (go_at_call 9; refine HU.out.mono ?_; rintro e w' ⟨er, rfl, eb, rfl, hsz, hcell, hb⟩)
  go_ret2
  exact ⟨_, rfl, eb, rfl, hcell, hb⟩

set_option maxHeartbeats 400000 in
/-- 'readSeqBelow' where the gap is too large. -/
theorem below_big (F : Interp) (B b off n c : Nat) (ao : Option Addr) (l : List UInt8) (seq : Int) (v k : Nat) (w : World) (hF : F.answers w.tape)
    (h0 : w.cell? ⟨b, 0, none⟩ = some (.slice ao n c)) (h1 : w.cell? ⟨b, 1, none⟩ = some (.int .i64 off)) (hfz : w.frozen? ⟨b, 1, none⟩ = false) (hon : off ≤ n) (hnc : n ≤ c) (hm : c ≤ maxLen) (hl : l.length = n)
    (hA : Lies w ao c off l) (hd : dec (l.drop off) = some (v, k)) (hvs : seq ≤ v) (hB : B ≤ b) (hBw : B ≤ w.heap.size) :
    Calls Ybaf.prog 6 #[.pointer (some ⟨b, 0, none⟩), .int .u64 seq] w fun e w' => ∃ er, e = .returned (.tuple #[.int .u64 0, er]) ∧ RefusedB B w off er w' := by
  have hu := uv_some b off n c ao l v k w h0 h1 hfz hon hnc hm hl hA hd
  have HU : Hid (Calls Ybaf.prog 9 #[.pointer (some ⟨b, 0, none⟩)] w fun e w' => e = .returned (.tuple #[.int .u64 v, .nilIface]) ∧ ∃ m, w' = (w.drewN m).setCell ⟨b, 1, none⟩ (.int .i64 ((off + k : Nat) : Int))) := hu
  have HF : Hid (F.answers w.tape) := hF
  clear hu hA hd hF
  go_enter Ybaf.func6, Ybaf.ntmps6
  go_wp2_with (first | (go_at_call 9; refine HU.out.mono ?_; rintro e w' ⟨rfl, m, rfl⟩) | (go_at_call 10; refine (errorf_any F _ _ _ _ (by exact HF.out) fmtBelow).mono ?_; rintro e w' ⟨t, rfl, rfl⟩))
  go_ret2
  exact ⟨_, rfl, refusedB_of B b m w _ _ _ hB hBw⟩

set_option maxHeartbeats 400000 in
/-- 'readSeqBelow' where all is well. -/
theorem below_ok (b off n c : Nat) (ao : Option Addr) (l : List UInt8) (seq : Int) (v k : Nat) (w : World)
    (h0 : w.cell? ⟨b, 0, none⟩ = some (.slice ao n c)) (h1 : w.cell? ⟨b, 1, none⟩ = some (.int .i64 off)) (hfz : w.frozen? ⟨b, 1, none⟩ = false) (hon : off ≤ n) (hnc : n ≤ c) (hm : c ≤ maxLen) (hl : l.length = n)
    (hA : Lies w ao c off l) (hd : dec (l.drop off) = some (v, k)) (hvs : (v : Int) < seq) (hs : seq < 18446744073709551616) :
    Calls Ybaf.prog 6 #[.pointer (some ⟨b, 0, none⟩), .int .u64 seq] w fun e w' => e = .returned (.tuple #[.int .u64 (seq - 1 - v), .nilIface]) ∧ ∃ m, w' = (w.drewN m).setCell ⟨b, 1, none⟩ (.int .i64 ((off + k : Nat) : Int)) := by
  have hu := uv_some b off n c ao l v k w h0 h1 hfz hon hnc hm hl hA hd
  have HU : Hid (Calls Ybaf.prog 9 #[.pointer (some ⟨b, 0, none⟩)] w fun e w' => e = .returned (.tuple #[.int .u64 v, .nilIface]) ∧ ∃ m, w' = (w.drewN m).setCell ⟨b, 1, none⟩ (.int .i64 ((off + k : Nat) : Int))) := hu
  clear hu hA hd
  go_enter Ybaf.func6, Ybaf.ntmps6
  go_wp2_with (go_at_call 9; refine HU.out.mono ?_; rintro e w' ⟨rfl, m, rfl⟩)
  go_ret2
  exact ⟨rfl, m, rfl⟩

theorem lies_alloc {w : World} {ao : Option Addr} {c off : Nat} {l : List UInt8} (h : Lies w ao c off l) (o : Obj) : Lies (w.alloc o) ao c off l := by
  intro hne
  obtain ⟨g, o', rfl, hc⟩ := h hne
  exact ⟨g, o', rfl, fun j hj => cell_later ((Below.refl _ w).alloc (Nat.le_refl _) _) (hc j hj)⟩

/-- The world in which the laws call 'readSeqBelow': a new decoder over the slice, at the offset. -/
def decAt (w : World) (ao : Option Addr) (n c off : Nat) : World := w.alloc (.cells #[.slice ao n c, .int .i64 (off : Int), .int .i64 0] 29)

theorem decAt_below {w w' : World} {ao : Option Addr} {n c off B : Nat} (hB : B ≤ w.heap.size) (h : Below B (decAt w ao n c off) w') : Below B w w' :=
  ((Below.refl B w).alloc hB _).trans h

section
variable {w : World} {ao : Option Addr} {n c off : Nat}
theorem decAt_0 : (decAt w ao n c off).cell? ⟨w.heap.size, 0, none⟩ = some (.slice ao n c) := by unfold decAt; go_simp
theorem decAt_1 : (decAt w ao n c off).cell? ⟨w.heap.size, 1, none⟩ = some (.int .i64 (off : Int)) := by unfold decAt; go_simp
theorem decAt_f : (decAt w ao n c off).frozen? ⟨w.heap.size, 1, none⟩ = false := by unfold decAt; go_simp
end

theorem rd_none (F : Interp) (off n c : Nat) (ao : Option Addr) (l : List UInt8) (seq : Int) (w : World) (hF : F.answers w.tape)
    (hon : off ≤ n) (hnc : n ≤ c) (hm : c ≤ maxLen) (hl : l.length = n) (hA : Lies w ao c off l) (hd : dec (l.drop off) = none) :
    Calls Ybaf.prog 6 #[.pointer (some ⟨w.heap.size, 0, none⟩), .int .u64 seq] (decAt w ao n c off) fun e w' => ∃ eb, e = .returned (.tuple #[.int .u64 0, .iface 43 (.pointer (some ⟨eb, 0, none⟩))]) ∧ w'.cell? ⟨eb, 0, none⟩ = some (.int .i64 off) ∧ Below w.heap.size w w' := by
  refine (below_none F w.heap.size off n c ao l seq (decAt w ao n c off) (by exact hF) decAt_0 decAt_1 hon hnc hm hl (lies_alloc hA _) hd).mono ?_
  rintro e w' ⟨er, rfl, eb, rfl, hc, hb⟩
  exact ⟨eb, rfl, hc, decAt_below (Nat.le_refl _) (hb.mono (by unfold decAt; simp))⟩

theorem rd_big (F : Interp) (off n c : Nat) (ao : Option Addr) (l : List UInt8) (seq : Int) (v k : Nat) (w : World) (hF : F.answers w.tape)
    (hon : off ≤ n) (hnc : n ≤ c) (hm : c ≤ maxLen) (hl : l.length = n) (hA : Lies w ao c off l) (hd : dec (l.drop off) = some (v, k)) (hvs : seq ≤ v) :
    Calls Ybaf.prog 6 #[.pointer (some ⟨w.heap.size, 0, none⟩), .int .u64 seq] (decAt w ao n c off) fun e w' => ∃ eb, e = .returned (.tuple #[.int .u64 0, .iface 43 (.pointer (some ⟨eb, 0, none⟩))]) ∧ w'.cell? ⟨eb, 0, none⟩ = some (.int .i64 off) ∧ Below w.heap.size w w' := by
  refine (below_big F w.heap.size w.heap.size off n c ao l seq v k (decAt w ao n c off) (by exact hF) decAt_0 decAt_1 decAt_f hon hnc hm hl (lies_alloc hA _) hd hvs (Nat.le_refl _) (by unfold decAt; simp)).mono ?_
  rintro e w' ⟨er, rfl, eb, rfl, hc, hb⟩
  exact ⟨eb, rfl, hc, decAt_below (Nat.le_refl _) hb⟩

theorem rd_ok (off n c : Nat) (ao : Option Addr) (l : List UInt8) (seq : Int) (v k : Nat) (w : World)
    (hon : off ≤ n) (hnc : n ≤ c) (hm : c ≤ maxLen) (hl : l.length = n) (hA : Lies w ao c off l) (hd : dec (l.drop off) = some (v, k)) (hvs : (v : Int) < seq) (hs : seq < 18446744073709551616) :
    Calls Ybaf.prog 6 #[.pointer (some ⟨w.heap.size, 0, none⟩), .int .u64 seq] (decAt w ao n c off) fun e w' => e = .returned (.tuple #[.int .u64 (seq - 1 - v), .nilIface]) ∧ w'.cell? ⟨w.heap.size, 1, none⟩ = some (.int .i64 ((off + k : Nat) : Int)) ∧ Below w.heap.size w w' := by
  refine (below_ok w.heap.size off n c ao l seq v k (decAt w ao n c off) decAt_0 decAt_1 decAt_f hon hnc hm hl (lies_alloc hA _) hd hvs hs).mono ?_
  rintro e w' ⟨rfl, m, rfl⟩
  refine ⟨rfl, ?_, decAt_below (ao := ao) (n := n) (c := c) (off := off) (Nat.le_refl _) ?_⟩
  · unfold decAt
    show (((w.alloc _)).setCell ⟨w.heap.size, 1, none⟩ _).cell? _ = _
    go_simp
  · have h : Below w.heap.size (decAt w ao n c off) ((decAt w ao n c off).drewN m) := ⟨rfl, rfl, rfl, Nat.le_refl _, fun _ _ => rfl⟩
    exact h.setCell (p := ⟨w.heap.size, 1, none⟩) (Nat.le_refl _) _
end Go.Proofs.YbulkojqFmt
