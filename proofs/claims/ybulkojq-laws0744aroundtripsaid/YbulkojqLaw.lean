import Derived.Test.YbulkojqInner
import Derived.Deep.DeepAppendRoom
set_option linter.unusedVariables false
set_option linter.unusedSimpArgs false
namespace Go.Proofs.Ybulkojq
open Go.RowKit

def zeroS : Nat → Lv := fun _ => ⟨0, [], .slice none 0 0, [], []⟩

theorem lay_zero (w : World) : Lay (w.alloc (.cells #[Value.int .u64 0, Value.int .u64 0, Value.slice none 0 0, Value.slice none 0 0, Value.int .u64 0, Value.int .u64 0, Value.slice none 0 0, Value.slice none 0 0, Value.int .u64 0, Value.int .u64 0, Value.slice none 0 0, Value.slice none 0 0, Value.int .u64 0, Value.int .u64 0, Value.slice none 0 0, Value.slice none 0 0, Value.int .u64 0, Value.int .u64 0, Value.slice none 0 0, Value.slice none 0 0, Value.int .u64 0, Value.int .u64 0, Value.slice none 0 0, Value.slice none 0 0, Value.int .u64 0, Value.int .u64 0, Value.slice none 0 0, Value.slice none 0 0, Value.int .u64 0, Value.int .u64 0, Value.slice none 0 0, Value.slice none 0 0, Value.int .u64 0, Value.int .u64 0, Value.slice none 0 0, Value.slice none 0 0, Value.int .u64 0, Value.int .u64 0, Value.slice none 0 0, Value.slice none 0 0, Value.int .u64 0, Value.int .u64 0, Value.slice none 0 0, Value.slice none 0 0, Value.int .i64 0, Value.bool false] 30)) w.heap.size (fun _ => False) zeroS 0 false := by
  have hb := heap_alloc_new w (.cells #[Value.int .u64 0, Value.int .u64 0, Value.slice none 0 0, Value.slice none 0 0, Value.int .u64 0, Value.int .u64 0, Value.slice none 0 0, Value.slice none 0 0, Value.int .u64 0, Value.int .u64 0, Value.slice none 0 0, Value.slice none 0 0, Value.int .u64 0, Value.int .u64 0, Value.slice none 0 0, Value.slice none 0 0, Value.int .u64 0, Value.int .u64 0, Value.slice none 0 0, Value.slice none 0 0, Value.int .u64 0, Value.int .u64 0, Value.slice none 0 0, Value.slice none 0 0, Value.int .u64 0, Value.int .u64 0, Value.slice none 0 0, Value.slice none 0 0, Value.int .u64 0, Value.int .u64 0, Value.slice none 0 0, Value.slice none 0 0, Value.int .u64 0, Value.int .u64 0, Value.slice none 0 0, Value.slice none 0 0, Value.int .u64 0, Value.int .u64 0, Value.slice none 0 0, Value.slice none 0 0, Value.int .u64 0, Value.int .u64 0, Value.slice none 0 0, Value.slice none 0 0, Value.int .i64 0, Value.bool false] 30)
  refine ⟨?_, fun o => froz_blk hb, fun h _ => World.ownsRow_nil _ _ _ _, fun h k _ _ _ => .inl rfl, fun h => h, fun h _ g _ e => e, fun k h => h.elim, fun k h => h.elim⟩
  intro o ho
  match o, ho with
  | 0, _ => exact cell_blk hb
  | 1, _ => exact cell_blk hb
  | 2, _ => exact cell_blk hb
  | 3, _ => exact cell_blk hb
  | 4, _ => exact cell_blk hb
  | 5, _ => exact cell_blk hb
  | 6, _ => exact cell_blk hb
  | 7, _ => exact cell_blk hb
  | 8, _ => exact cell_blk hb
  | 9, _ => exact cell_blk hb
  | 10, _ => exact cell_blk hb
  | 11, _ => exact cell_blk hb
  | 12, _ => exact cell_blk hb
  | 13, _ => exact cell_blk hb
  | 14, _ => exact cell_blk hb
  | 15, _ => exact cell_blk hb
  | 16, _ => exact cell_blk hb
  | 17, _ => exact cell_blk hb
  | 18, _ => exact cell_blk hb
  | 19, _ => exact cell_blk hb
  | 20, _ => exact cell_blk hb
  | 21, _ => exact cell_blk hb
  | 22, _ => exact cell_blk hb
  | 23, _ => exact cell_blk hb
  | 24, _ => exact cell_blk hb
  | 25, _ => exact cell_blk hb
  | 26, _ => exact cell_blk hb
  | 27, _ => exact cell_blk hb
  | 28, _ => exact cell_blk hb
  | 29, _ => exact cell_blk hb
  | 30, _ => exact cell_blk hb
  | 31, _ => exact cell_blk hb
  | 32, _ => exact cell_blk hb
  | 33, _ => exact cell_blk hb
  | 34, _ => exact cell_blk hb
  | 35, _ => exact cell_blk hb
  | 36, _ => exact cell_blk hb
  | 37, _ => exact cell_blk hb
  | 38, _ => exact cell_blk hb
  | 39, _ => exact cell_blk hb
  | 40, _ => exact cell_blk hb
  | 41, _ => exact cell_blk hb
  | 42, _ => exact cell_blk hb
  | 43, _ => exact cell_blk hb
  | 44, _ => exact cell_blk hb
  | 45, _ => exact cell_blk hb
  | k + 46, h => exact absurd h (by omega)

theorem Lay.low {w w' : World} {b g : Nat} {I : Nat → Prop} {S : Nat → Lv} {L : Nat} {bulk : Bool} (l : Lay w b I S L bulk) (hg : w.grownBy w' (some g)) (h : g < b) : Lay w' b I S L bulk ∧ Ext I w I w' := by
  have hne : ∀ k, b ≤ k → some k ≠ some g := fun k hk e => by cases e; omega
  refine ⟨⟨fun o ho => ?_, fun o => ?_, fun j hj => (l.row j hj).kept hg ?_, l.apart, l.out, l.outr, fun k hk => Nat.lt_of_lt_of_le (l.lt k hk) hg.size, l.gt⟩, ⟨fun _ h => h, fun k hk => hg.block k (l.lt k hk) (hne k (Nat.le_of_lt (l.gt k hk)))⟩⟩
  · rw [cell_grown hg l.hb (hne b (Nat.le_refl _))]; exact l.cells o ho
  · rw [World.frozen?_of_block (hg.block b l.hb (hne b (Nat.le_refl _)))]; exact l.froz o
  · cases e : (S j).v.ownBlock with
    | none => exact .inl rfl
    | some k =>
      refine .inr (fun e2 => ?_)
      have := ((l.row j hj).lt k e).1
      cases e2
      omega

theorem Built.low {w w' : World} {b g : Nat} {I : Nat → Prop} {S : Nat → Lv} {L : Nat} {bulk : Bool} {E : List Ent} (k : Built w b I S L bulk E) (hg : w.grownBy w' (some g)) (h : g < b) : Built w' b I S L bulk E :=
  ⟨(k.lay.low hg h).1, k.good.keep (k.lay.low hg h).2, k.l11, k.ent⟩

theorem Built.more {w w' : World} {b : Nat} {I : Nat → Prop} {S : Nat → Lv} {L : Nat} {bulk : Bool} {E : List Ent} (k : Built w b I S L bulk E) (hg : w.grownBy w' none) : Built w' b I S L bulk E :=
  ⟨k.lay.more hg, k.good.keep (k.lay.extG hg), k.l11, k.ent⟩

theorem own_below {w w' : World} {C B n g m c : Nat} {t : TypeId} {xs : List Value} (h : w.ownsRow C t 1 (.slice (some ⟨g, 0, none⟩) m c) n xs) (hb : Below B w w') (hg : g < B) : w'.ownsRow C t 1 (.slice (some ⟨g, 0, none⟩) m c) n xs := by
  obtain ⟨hl, ⟨e, _⟩ | ⟨g', cap, cur, e, h1, h2, h3⟩⟩ := h
  · cases e
  · refine ⟨hl, .inr ⟨g', cap, cur, e, h1, ?_, h3⟩⟩
    cases e
    rw [hb.block g hg]
    exact h2

theorem add_lay {w : World} {b : Nat} {I : Nat → Prop} {S : Nat → Lv} {L : Nat} {bulk : Bool} {E : List Ent} (k : Built w b I S L bulk E) (seq v : Nat) (hseq : seq < 18446744073709551616) (hE : ∀ e ∈ E, e.1 < seq) :
    Calls Yba.prog 5 #[.pointer (some ⟨b, 0, none⟩), .int .u64 (seq : Nat), .int .i64 (v : Nat)] w fun e w' => e = .returned (.tuple #[]) ∧ ∃ I' S' L' bulk', Built w' b I' S' L' bulk' (E ++ [(seq, v)]) ∧ Below b w w' := by
  have e : bits .and .u64 (seq : Nat) 63 = ((seq % 64 : Nat) : Int) := by
    rw [← nat_mask6]
    exact u64_and_nat seq 63 hseq (by omega)
  have s := slot_shift seq hseq
  rw [e] at s
  exact add_walk k seq v hseq hE e s

/-- The loop that adds. -/
def Adding (w : World) (gs b n i s : Nat) (E : List Ent) (W : World) : Prop :=
  ∃ I S L bulk, Built W b I S L bulk E ∧ W.ownsRow gs 22 1 (.slice (some ⟨gs, 0, none⟩) i (n + 1)) i (E.map sq) ∧ E.length = i ∧ (∀ (k : Nat) (e : Ent), E[k]? = some e → e.2 = k) ∧ (∀ e ∈ E, e.1 ≤ s) ∧ s < 18446744073709551616 ∧ Below gs w W

theorem adding_zero {w w1 : World} {n start : Nat} (hs : start < 18446744073709551616) (hown1 : w1.ownsRow w.heap.size 22 1 (.slice (some ⟨w.heap.size, 0, none⟩) 0 (n + 1)) 0 []) (hgr1 : w.grownBy w1 none) :
    Adding w w.heap.size w1.heap.size n 0 start [] (w1.alloc (.cells #[Value.int .u64 0, Value.int .u64 0, Value.slice none 0 0, Value.slice none 0 0, Value.int .u64 0, Value.int .u64 0, Value.slice none 0 0, Value.slice none 0 0, Value.int .u64 0, Value.int .u64 0, Value.slice none 0 0, Value.slice none 0 0, Value.int .u64 0, Value.int .u64 0, Value.slice none 0 0, Value.slice none 0 0, Value.int .u64 0, Value.int .u64 0, Value.slice none 0 0, Value.slice none 0 0, Value.int .u64 0, Value.int .u64 0, Value.slice none 0 0, Value.slice none 0 0, Value.int .u64 0, Value.int .u64 0, Value.slice none 0 0, Value.slice none 0 0, Value.int .u64 0, Value.int .u64 0, Value.slice none 0 0, Value.slice none 0 0, Value.int .u64 0, Value.int .u64 0, Value.slice none 0 0, Value.slice none 0 0, Value.int .u64 0, Value.int .u64 0, Value.slice none 0 0, Value.slice none 0 0, Value.int .u64 0, Value.int .u64 0, Value.slice none 0 0, Value.slice none 0 0, Value.int .i64 0, Value.bool false] 30)) :=
  ⟨_, _, _, _, ⟨lay_zero w1, ⟨fun j h1 h2 => by omega, fun j h1 h2 => by omega, fun j h1 h2 => by omega, fun j h1 h2 => by omega, fun j h1 h2 => by omega⟩, by omega, rfl⟩, hown1.alloc _, rfl, fun k e h => by simp at h, fun e h => (by cases h), hs, below_grown (hgr1.trans (World.grownBy_alloc w1 _ none)) (Nat.le_refl _)⟩

theorem idx_snoc {E : List Ent} {s i : Nat} (hl : E.length = i) (h : ∀ (k : Nat) (e : Ent), E[k]? = some e → e.2 = k) : ∀ (k : Nat) (e : Ent), (E ++ [(s, i)])[k]? = some e → e.2 = k := by
  intro k e hk
  by_cases hlt : k < E.length
  · rw [List.getElem?_append_left hlt] at hk
    exact h k e hk
  · rw [List.getElem?_append_right (by omega)] at hk
    have hk0 : k - E.length = 0 := by
      have := (List.getElem?_eq_some_iff.1 hk).1
      simp at this
      omega
    rw [hk0] at hk
    simp at hk
    subst hk
    show i = k
    omega

theorem step_wrap (g : Nat) : ∃ st : Nat, 1 ≤ st ∧ st ≤ 8796093022208 ∧ IntKind.u64.wrap ((1 + (g : Int) % 256) * 2 ^ (g / 256 % 36)) = (st : Int) := by
  refine ⟨(1 + g % 256) * 2 ^ (g / 256 % 36), ?_, ?_, ?_⟩
  · have := Nat.two_pow_pos (g / 256 % 36)
    exact Nat.mul_pos (by omega) this
  · have h1 : 2 ^ (g / 256 % 36) ≤ 2 ^ 35 := Nat.pow_le_pow_right (by omega) (by omega)
    have h2 : (2 : Nat) ^ 35 = 34359738368 := by decide
    have h3 : (1 + g % 256) * 2 ^ (g / 256 % 36) ≤ 256 * 2 ^ (g / 256 % 36) := Nat.mul_le_mul_right _ (by omega)
    omega
  · have h1 : 2 ^ (g / 256 % 36) ≤ 2 ^ 35 := Nat.pow_le_pow_right (by omega) (by omega)
    have h2 : (2 : Nat) ^ 35 = 34359738368 := by decide
    have h3 : (1 + g % 256) * 2 ^ (g / 256 % 36) ≤ 256 * 2 ^ (g / 256 % 36) := Nat.mul_le_mul_right _ (by omega)
    have e2 : 1 + (g : Int) % 256 = ((1 + g % 256 : Nat) : Int) := by omega
    have e3 : ((1 + g % 256 : Nat) : Int) * 2 ^ (g / 256 % 36) = (((1 + g % 256) * 2 ^ (g / 256 % 36) : Nat) : Int) := by simp
    rw [e2, e3, IntKind.wrap_u64]
    generalize (1 + g % 256) * 2 ^ (g / 256 % 36) = Y at *
    omega

theorem grown_both {a b c : World} {r : Option Nat} (h : a.grownBy b r) (k : b.grownBy c r) : a.grownBy c r := h.trans k

theorem heap_at (w : World) (o : Obj) (k : Nat) (hk : k = w.heap.size) : (w.alloc o).heap[k]? = some o := by
  subst hk
  exact heap_alloc_new w o

theorem out_zero (w : World) (o : Obj) :
    OutAt (((((w.alloc o).alloc (.cells #[] 22)).alloc (.cells #[.slice (some ⟨w.heap.size + 1, 0, none⟩) 0 0] 23)).alloc (.cells #[] 33)).alloc (.cells #[.slice (some ⟨w.heap.size + 1 + 1 + 1, 0, none⟩) 0 0] 24)) w.heap.size (w.heap.size + 1 + 1) (w.heap.size + 1 + 1 + 1 + 1) [] [] := by
  refine ⟨.slice (some ⟨w.heap.size + 1, 0, none⟩) 0 0, .slice (some ⟨w.heap.size + 1 + 1 + 1, 0, none⟩) 0 0, ⟨?_, heap_at _ _ _ (by simp), ?_, ?_, by omega, by omega⟩⟩
  · rw [Below.heap_alloc _ _ _ (by simp), Below.heap_alloc _ _ _ (by simp)]
    exact heap_at _ _ _ (by simp)
  · refine ⟨rfl, .inr ⟨w.heap.size + 1, 0, #[], rfl, by omega, ?_, Nat.le_refl _, by unfold maxLen; omega, rfl, rfl⟩⟩
    rw [Below.heap_alloc _ _ _ (by simp <;> omega), Below.heap_alloc _ _ _ (by simp <;> omega), Below.heap_alloc _ _ _ (by simp)]
    exact heap_at _ _ _ (by simp)
  · refine ⟨rfl, .inr ⟨w.heap.size + 1 + 1 + 1, 0, #[], rfl, by omega, ?_, Nat.le_refl _, by unfold maxLen; omega, rfl, rfl⟩⟩
    rw [Below.heap_alloc _ _ _ (by simp)]
    exact heap_at _ _ _ (by simp)

theorem own_form {w : World} {C n : Nat} {t : TypeId} {v : Value} {xs : List Value} (h : w.ownsRow C t 1 v n xs) (hn : 0 < n) : ∃ g c, v = .slice (some ⟨g, 0, none⟩) n c ∧ ∀ j u, xs[j]? = some u → w.cell? ⟨g, j, none⟩ = some u := by
  have hc := h
  obtain ⟨_, ⟨_, h0⟩ | ⟨g, cap, cur, e, _⟩⟩ := h
  · omega
  · exact ⟨g, cap, e, fun j u hu => by rw [← add0]; exact hc.cells (by rw [e]; rfl) j u hu⟩

set_option maxHeartbeats 400000 in
theorem rt_big (v0 : Value) (a : Option Addr) (n c : Nat) (w : World) (hn : 1024 < n) :
    Calls Yba.prog 3 #[v0, .slice a n c] w fun e w' => e = .returned (.bool true) ∧ w' = w := by
  go_enter Yba.func3, Yba.ntmps3
  go_wp2
  go_ret
  exact ⟨rfl, rfl⟩

set_option maxHeartbeats 1000000 in
set_option maxRecDepth 100000 in
theorem rt_small (start : Nat) (a : Option Addr) (n c : Nat) (zs : List Nat) (w : World) (hs : start < 18446744073709551616) (hn : n ≤ 1024) (ha : a = none → n = 0)
    (hx : ∀ x, a = some x → ∀ j, j < n → w.cell? (x.add j) = some (.int .u64 (zs.getD j 0 : Nat))) (hzs : ∀ j, zs.getD j 0 < 18446744073709551616) :
    Calls Yba.prog 3 #[.int .u64 (start : Nat), .slice a n c] w fun e w' => e = .returned (.bool true) ∧ Below w.heap.size w w' := by
  obtain ⟨i22, hi22, hy0, hy1, hy2⟩ := info_parts inf22
  have HX := Hid.mk hx
  have HZS := Hid.mk hzs
  clear hx hzs
  have hdn : decide ((1024 : Int) < (n : Int)) = false := by simp; omega
  go_enter Yba.func3, Yba.ntmps3
  go_upto_block 0 with (at_make; go_must (refine wpList_make_own _ rfl _ _ 23 rfl w.heap.size 22 i22 (.int .u64 0) 1 Yba.underlying23 hi22 hy0 hy1 _ _ _ (n + 1) rfl rfl (by omega) (by rw [hy2]; omega) (by unfold maxLen; omega) (Nat.le_refl _) ?_); intro w1 hown1 hgr1)
  have hgsb : w.heap.size < w1.heap.size := (hown1.lt w.heap.size rfl).2
  have A0 := Hid.mk (adding_zero hs hown1 hgr1)
  clear hown1 hgr1
  generalize hb : w1.heap.size = b at *
  generalize w1.alloc (Obj.cells _ _ _) = W0 at *
  clear hb
  go_cut [5] from 15 (fun s5 W => ∃ i s E, 0 < i ∧ i ≤ n + 1 ∧ s5 = .slice (some ⟨w.heap.size, 0, none⟩) i (n + 1) ∧ Adding w w.heap.size b n i s E W)
  case first =>
    go_wp2_with fail
    go_loopw [5, 7, 8] (fun s5 s7 s8 wr => ∃ i s E, i ≤ n + 1 ∧ s8 = .int .i64 (i : Nat) ∧ s7 = .int .u64 (s : Nat) ∧ s5 = .slice (some ⟨w.heap.size, 0, none⟩) i (n + 1) ∧ Adding w w.heap.size b n i s E wr) (fun _ _ s8 _ => n + 1 - (intOf s8).toNat)
    case atStart => exact ⟨0, start, [], by omega, rfl, rfl, rfl, A0.out⟩
    case round =>
      obtain ⟨i, s, E, hi, rfl, rfl, rfl, I1, S1, L1, bk1, bu, own, len, idxs, le, hs64, bel⟩ := hrel
      have BU := Hid.mk bu
      have OWN := Hid.mk own
      have LEN := Hid.mk len
      have IDXS := Hid.mk idxs
      have LE := Hid.mk le
      have BEL := Hid.mk bel
      have hsz : w.heap.size < wr.heap.size := Nat.lt_trans hgsb bu.lay.hb
      clear bu own len idxs le bel A0
      by_cases hin : i ≤ n
      · cases i with
        | zero =>
          have hE0 : E = [] := List.eq_nil_of_length_eq_zero LEN.out
          have hlt : ∀ e ∈ E, e.1 < s := (by intro e he; rw [hE0] at he; cases he)
          have CH : Hid (∀ W', wr.grownBy W' (some w.heap.size) → Calls Yba.prog 5 #[.pointer (some ⟨b, 0, none⟩), .int .u64 (s : Nat), .int .i64 (0 : Nat)] W' fun e w' => e = .returned (.tuple #[]) ∧ ∃ I' S' L' bulk', Built w' b I' S' L' bulk' (E ++ [(s, 0)]) ∧ Below b W' w') := Hid.mk (fun W' hg => add_lay (BU.out.low hg hgsb) s 0 hs64 hlt)
          clear hlt
          go_wp2_with (first | (at_builtin; go_must (refine wpList_append_own_spare _ rfl (.tmp 50) (.tmp 52) 23 rfl w.heap.size 22 i22 1 Yba.underlying23 hi22 hy1 w.heap.size 0 (n + 1) (E.map sq) rfl (OWN.out.alloc _) ⟨wr.heap.size, 0, none⟩ 1 1 [.int .u64 (s : Nat)] rfl rfl (cell_one_new _ _ _) (by intro u hu; simp at hu; subst hu; rfl) (by omega) ?_); intro w5 hown5 hgr5; have OWN5 := Hid.mk hown5; have GR5 := Hid.mk (grown_both (World.grownBy_alloc wr _ _) hgr5); clear hown5 hgr5) | (go_at_call 5; go_must (refine (CH.out _ GR5.out).mono ?_); rintro e w6 ⟨rfl, I6, S6, L6, bk6, k6, b6⟩; have K6 := Hid.mk k6; have B6 := Hid.mk b6; clear k6 b6))
          refine ⟨⟨0 + 1, s, E ++ [(s, 0)], by omega, by first | rfl | exact congrArg _ (by omega), by first | rfl | exact congrArg _ (by omega), rfl, ⟨I6, S6, L6, bk6, K6.out, ?_, by rw [List.length_append, LEN.out]; rfl, idx_snoc LEN.out IDXS.out, ?_, hs64, ?_⟩⟩, by simp [intOf] <;> omega⟩
          · have := own_below OWN5.out B6.out hgsb
            rw [List.map_append]
            exact this
          · intro e he
            rcases List.mem_append.1 he with h | h
            · exact (fun e he => by rw [hE0] at he; cases he) e h
            · obtain rfl := List.mem_singleton.1 h
              exact Nat.le_refl _
          · exact (BEL.out.grown GR5.out (Nat.le_of_lt hsz) (fun k h => by cases h; exact Nat.le_refl _)).trans (B6.out.mono (Nat.le_of_lt hgsb))
        | succ k =>
          obtain ⟨x, rfl⟩ : ∃ x, a = some x := by
            cases a with
            | none => have := ha rfl; omega
            | some x => exact ⟨x, rfl⟩
          have hg : wr.cell? (x.add k) = some (.int .u64 (zs.getD k 0 : Nat)) := cell_later BEL.out (HX.out x rfl k (by omega))
          have hg64 := HZS.out k
          generalize zs.getD k 0 = g at hg hg64
          obtain ⟨st, st1, st2, hst⟩ := step_wrap g
          by_cases hov : s > 18446744073709551615 - st
          · have hov' : (18446744073709551615 : Int) - st < s := by omega
            go_wp2
            go_meet
            case rel => exact ⟨k + 1, s, E, by omega, by omega, rfl, I1, S1, L1, bk1, BU.out, OWN.out, LEN.out, IDXS.out, LE.out, hs64, BEL.out⟩
          · have hov' : ¬ ((18446744073709551615 : Int) - st < s) := by omega
            have hlt : ∀ e ∈ E, e.1 < (s + st) := (fun e he => by have := LE.out e he; omega)
            have CH : Hid (∀ W', wr.grownBy W' (some w.heap.size) → Calls Yba.prog 5 #[.pointer (some ⟨b, 0, none⟩), .int .u64 ((s + st) : Nat), .int .i64 ((k + 1) : Nat)] W' fun e w' => e = .returned (.tuple #[]) ∧ ∃ I' S' L' bulk', Built w' b I' S' L' bulk' (E ++ [((s + st), (k + 1))]) ∧ Below b W' w') := Hid.mk (fun W' hg => add_lay (BU.out.low hg hgsb) (s + st) (k + 1) (by omega) hlt)
            clear hlt
            go_wp2_with (first | (at_builtin; go_must (refine wpList_append_own_spare _ rfl (.tmp 50) (.tmp 52) 23 rfl w.heap.size 22 i22 1 Yba.underlying23 hi22 hy1 w.heap.size (k + 1) (n + 1) (E.map sq) rfl (OWN.out.alloc _) ⟨wr.heap.size, 0, none⟩ 1 1 [.int .u64 ((s + st) : Nat)] rfl rfl (cell_one_new _ _ _) (by intro u hu; simp at hu; subst hu; rfl) (by omega) ?_); intro w5 hown5 hgr5; have OWN5 := Hid.mk hown5; have GR5 := Hid.mk (grown_both (World.grownBy_alloc wr _ _) hgr5); clear hown5 hgr5) | (go_at_call 5; go_must (refine (CH.out _ GR5.out).mono ?_); rintro e w6 ⟨rfl, I6, S6, L6, bk6, k6, b6⟩; have K6 := Hid.mk k6; have B6 := Hid.mk b6; clear k6 b6))
            refine ⟨⟨(k + 1) + 1, (s + st), E ++ [((s + st), (k + 1))], by omega, by first | rfl | exact congrArg _ (by omega), by first | rfl | exact congrArg _ (by omega), rfl, ⟨I6, S6, L6, bk6, K6.out, ?_, by rw [List.length_append, LEN.out]; rfl, idx_snoc LEN.out IDXS.out, ?_, (by omega), ?_⟩⟩, by simp [intOf] <;> omega⟩
            · have := own_below OWN5.out B6.out hgsb
              rw [List.map_append]
              exact this
            · intro e he
              rcases List.mem_append.1 he with h | h
              · exact Nat.le_trans (LE.out e h) (Nat.le_add_right s st)
              · obtain rfl := List.mem_singleton.1 h
                exact Nat.le_refl _
            · exact (BEL.out.grown GR5.out (Nat.le_of_lt hsz) (fun k h => by cases h; exact Nat.le_refl _)).trans (B6.out.mono (Nat.le_of_lt hgsb))
      · have hin' : ¬ ((i : Int) ≤ (n : Int)) := by omega
        go_wp2
        go_meet
        case rel => exact ⟨i, s, E, by omega, hi, rfl, I1, S1, L1, bk1, BU.out, OWN.out, LEN.out, IDXS.out, LE.out, hs64, BEL.out⟩
  case rest =>
    rename World => w3
    obtain ⟨i, s, E, hi0, hi1, rfl, I1, S1, L1, bk1, bu, own, len, idxs, le, hs64, bel⟩ := hcut
    have hL1 : 0 < L1 := by
      cases L1 with
      | zero =>
        have := bu.ent
        rw [← this] at len
        simp [cat] at len
        omega
      | succ L => omega
    have MAP := Hid.mk (map_walk bu hL1)
    have OWN := Hid.mk own
    have LEN := Hid.mk len
    have IDXS := Hid.mk idxs
    have BEL := Hid.mk bel
    have hsz : w.heap.size < w3.heap.size := Nat.lt_trans hgsb bu.lay.hb
    clear bu own len idxs le bel A0 hL1
    go_wp2_with (go_at_call 6; go_must (refine MAP.out.mono ?_); rintro e w2 ⟨nb, h, I2, rfl, t2, be2, h10, hlt2⟩; have T2 := Hid.mk t2; have B2 := Hid.mk be2; have LT2 := Hid.mk hlt2; clear t2 be2 hlt2)
    have hgrow : w2.grownBy (((((w2.alloc (.cells #[.pointer (some ⟨nb, 0, none⟩), .int .i64 (h : Nat)] 36)).alloc (.cells #[] 22)).alloc (.cells #[.slice (some ⟨w2.heap.size + 1, 0, none⟩) 0 0] 23)).alloc (.cells #[] 33)).alloc (.cells #[.slice (some ⟨w2.heap.size + 1 + 1 + 1, 0, none⟩) 0 0] 24)) none :=
      ((((World.grownBy_alloc _ _ none).trans (World.grownBy_alloc _ _ none)).trans (World.grownBy_alloc _ _ none)).trans (World.grownBy_alloc _ _ none)).trans (World.grownBy_alloc _ _ none)
    have ex : Ext I2 w2 I2 _ := ⟨fun _ h => h, fun k hk => hgrow.block k (LT2.out k hk) (by simp)⟩
    have oz := out_zero w2 (.cells #[.pointer (some ⟨nb, 0, none⟩), .int .i64 (h : Nat)] 36)
    have CH := walk_all h (by omega) I2 _ w2.heap.size _ _ nb 0 E [] [] (T2.out.keep ex (fun p ss xs es => Body.keep ex h p ss xs es)) LT2.out oz (by have := LEN.out; simp; omega) (by have := LEN.out; simp; omega) hgrow.size
    have e0 : ((0 : Nat) : Int) = 0 := rfl
    rw [e0] at CH
    refine CH.mono ?_
    rintro e w4 ⟨rfl, ⟨v1, v2, o⟩, hb4⟩
    have hEl : (([] : List Value) ++ E.map sq).length = i := by simp [LEN.out]
    have hVl : (([] : List Value) ++ E.map vl).length = i := by simp [LEN.out]
    obtain ⟨ga, ca, rfl, hga⟩ := own_form o.r1 (by omega)
    obtain ⟨gb, cb, rfl, hgb⟩ := own_form o.r2 (by omega)
    have p1 := cell_blk (o := 0) o.h1
    have p2 := cell_blk (o := 0) o.h2
    rw [hEl] at p1
    rw [hVl] at p2
    have own4 : Hid (w4.ownsRow w.heap.size 22 1 (.slice (some ⟨w.heap.size, 0, none⟩) i (n + 1)) i (E.map sq)) := Hid.mk (by
      have h2 := own_below OWN.out B2.out hgsb
      have hs2 : w.heap.size < w2.heap.size := (h2.lt w.heap.size rfl).2
      exact own_below (own_below h2 (below_grown hgrow (Nat.le_refl _)) hs2) hb4 hs2)
    have hgs : Hid (∀ j u, (E.map sq)[j]? = some u → w4.cell? ⟨w.heap.size, j, none⟩ = some u) := Hid.mk (fun j u hu => by rw [← add0]; exact own4.out.cells rfl j u hu)
    have HGA := Hid.mk hga
    have HGB := Hid.mk hgb
    have BE4 : Hid (Below w.heap.size w w4) := Hid.mk (by
      have hs2 : w.heap.size ≤ w2.heap.size := Nat.le_trans (Nat.le_of_lt hsz) B2.out.size
      exact ((BEL.out.trans (B2.out.mono (Nat.le_of_lt hgsb))).trans (below_grown hgrow hs2)).trans (hb4.mono hs2))
    clear hga hgb o oz ex hgrow hb4 CH own4
    go_wp2_with fail
    go_loopw [14] (fun s14 wr => ∃ j m : Nat, j ≤ i ∧ s14 = .int .i64 (j : Nat) ∧ wr = w4.drewN m) (fun s14 _ => i - (intOf s14).toNat)
    case atStart => exact ⟨0, 0, Nat.zero_le _, rfl, rfl⟩
    case round =>
      obtain ⟨j, m, hj, rfl, rfl⟩ := hrel
      by_cases hji : j < i
      · obtain ⟨e, he⟩ : ∃ e, E[j]? = some e := by
          have := LEN.out
          exact ⟨E[j]'(by omega), List.getElem?_eq_getElem (by omega)⟩
        have d1 : w4.cell? ⟨ga, j, none⟩ = some (.int .u64 (e.1 : Nat)) := HGA.out j _ (by simp [he, sq])
        have d2 : w4.cell? ⟨w.heap.size, j, none⟩ = some (.int .u64 (e.1 : Nat)) := hgs.out j _ (by simp [he, sq])
        have d3 : w4.cell? ⟨gb, j, none⟩ = some (.int .i64 (j : Nat)) := by
          have := HGB.out j (vl e) (by simp [he])
          rw [this]
          unfold vl
          rw [IDXS.out j e he]
        have hji' : (j : Int) < (i : Int) := by omega
        generalize e.1 = x at d1 d2
        clear he
        go_wp2
        go_quiet (fail)
        go_wp2
        exact ⟨⟨j + 1, _, by omega, congrArg _ (by omega), rfl⟩, by simp [intOf] <;> omega⟩
      · have hji' : ¬ ((j : Int) < (i : Int)) := by omega
        go_wp2
        go_ret
        exact ⟨rfl, bel_drewN BE4.out _⟩
end Go.Proofs.Ybulkojq
