import Derived.Test.YbulkoksFmtWalks1
set_option linter.unusedVariables false
namespace Go.Proofs.YbulkoksFmt
open Go.RowKit Go.Extern.Stop Go.Stop Go.Extern

/-- A clock in memory: of n processes (their names ss), its two steps, its two bounds. -/
structure Clk (w : World) (c lb nb cp n : Nat) (ss : List ByteArray) (bef aft pb cb : Int) : Prop where
  c0 : w.cell? ⟨c, 0, none⟩ = some (.pointer (some ⟨lb, 0, none⟩))
  c1 : w.cell? ⟨c, 1, none⟩ = some (.int .i64 bef)
  c2 : w.cell? ⟨c, 2, none⟩ = some (.int .i64 aft)
  c4 : w.cell? ⟨c, 4, none⟩ = some (.int .i64 pb)
  c5 : w.cell? ⟨c, 5, none⟩ = some (.int .i64 cb)
  l0 : w.cell? ⟨lb, 0, none⟩ = some (.slice (some ⟨nb, 0, none⟩) n cp)
  len : ss.length = n
  small : n ≤ 8
  name : ∀ j (hj : j < ss.length), w.cell? ⟨nb, j, none⟩ = some (.string ss[j])

theorem Clk.later {w w' : World} {c lb nb cp n : Nat} {ss : List ByteArray} {bef aft pb cb : Int} (h : Clk w c lb nb cp n ss bef aft pb cb) (hb : Below w.heap.size w w') : Clk w' c lb nb cp n ss bef aft pb cb :=
  ⟨cell_later hb h.c0, cell_later hb h.c1, cell_later hb h.c2, cell_later hb h.c4, cell_later hb h.c5, cell_later hb h.l0, h.len, h.small, fun j hj => cell_later hb (h.name j hj)⟩

/-- An error came back. -/
def Err (e : Ending) : Prop := ∃ x, e = .returned (.iface 58 x)

set_option maxHeartbeats 400000 in
theorem shape_ok (c lb nb cp n : Nat) (ss : List ByteArray) (bef aft pb cb proc : Int) (a b : Option Addr) (ca cb' : Nat) (w : World) (hk : Clk w c lb nb cp n ss bef aft pb cb)
    (h0 : 0 ≤ proc) (h1 : proc < n) :
    Calls Ybaf.prog 13 #[.pointer (some ⟨c, 0, none⟩), .agg #[.int .i64 proc, .slice a n ca, .slice b n cb']] w fun e w' => e = .returned .nilIface ∧ Below w.heap.size w w' := by
  have hs := hk.small
  have lc : c < w.heap.size := World.block_lt_of_cell? _ _ hk.c0
  have ll : lb < w.heap.size := World.block_lt_of_cell? _ _ hk.l0
  have c0 := hk.c0
  have l0 := hk.l0
  clear hk
  go_enter Ybaf.func13, Ybaf.ntmps13
  go_wp2
  go_ret
  exact ⟨rfl, (Below.refl _ w).alloc (Nat.le_refl _) _⟩

set_option maxHeartbeats 400000 in
theorem shape_proc (F : Interp) (c lb nb cp n : Nat) (ss : List ByteArray) (bef aft pb cb proc : Int) (v1 v2 : Value) (w : World) (hF : F.answers w.tape) (hk : Clk w c lb nb cp n ss bef aft pb cb)
    (h0 : proc < 0 ∨ (n : Int) ≤ proc) :
    Calls Ybaf.prog 13 #[.pointer (some ⟨c, 0, none⟩), .agg #[.int .i64 proc, v1, v2]] w fun e w' => Err e ∧ Below w.heap.size w w' := by
  have hs := hk.small
  have lc : c < w.heap.size := World.block_lt_of_cell? _ _ hk.c0
  have ll : lb < w.heap.size := World.block_lt_of_cell? _ _ hk.l0
  have c0 := hk.c0
  have l0 := hk.l0
  have HF : Hid (F.answers w.tape) := hF
  clear hk hF
  rcases h0 with h0 | h0
  all_goals
    go_enter Ybaf.func13, Ybaf.ntmps13
    go_wp2_with (first | (go_at_call 17; go_must (refine (errorfF1 F _ 2 proc n _ (by exact HF.out) (by go_simp) (by go_simp)).mono ?_); rintro e w' ⟨rfl, hb⟩) | go_in)
    go_ret
    exact ⟨⟨_, rfl⟩, (((Below.refl _ w).alloc (Nat.le_refl _) _).alloc (by simp) _).trans (hb.mono (by simp; omega))⟩

set_option maxHeartbeats 400000 in
theorem shape_len (F : Interp) (c lb nb cp n : Nat) (ss : List ByteArray) (bef aft pb cb proc : Int) (a b : Option Addr) (n1 ca n2 cb' : Nat) (w : World) (hF : F.answers w.tape) (hk : Clk w c lb nb cp n ss bef aft pb cb)
    (h0 : 0 ≤ proc) (h1 : proc < n) (hne : n1 ≠ n ∨ n2 ≠ n) :
    Calls Ybaf.prog 13 #[.pointer (some ⟨c, 0, none⟩), .agg #[.int .i64 proc, .slice a n1 ca, .slice b n2 cb']] w fun e w' => Err e ∧ Below w.heap.size w w' := by
  have hs := hk.small
  have lc : c < w.heap.size := World.block_lt_of_cell? _ _ hk.c0
  have ll : lb < w.heap.size := World.block_lt_of_cell? _ _ hk.l0
  have c0 := hk.c0
  have l0 := hk.l0
  have HF : Hid (F.answers w.tape) := hF
  clear hk hF
  by_cases hn1 : n1 = n
  · have hn2 : ((n2 : Int) == (n : Int)) = false := by simp; omega
    have hn2' : ((n2 : Int) != (n : Int)) = true := by simp; omega
    have HN : Hid (n1 ≠ n ∨ n2 ≠ n) := hne
    clear hne
    subst hn1
    go_enter Ybaf.func13, Ybaf.ntmps13
    go_wp2_with (first | (go_at_call 17; go_must (refine (errorfF2 F _ 3 n1 n2 n1 _ (by exact HF.out) (by go_simp) (by go_simp) (by go_simp)).mono ?_); rintro e w' ⟨rfl, hb⟩) | go_in)
    go_ret
    exact ⟨⟨_, rfl⟩, (((Below.refl _ w).alloc (Nat.le_refl _) _).alloc (by simp) _).trans (hb.mono (by simp; omega))⟩
  · have hn2 : ((n1 : Int) == (n : Int)) = false := by simp; omega
    have hn2' : ((n1 : Int) != (n : Int)) = true := by simp; omega
    clear hne
    go_enter Ybaf.func13, Ybaf.ntmps13
    go_wp2_with (first | (go_at_call 17; go_must (refine (errorfF2 F _ 3 n1 n2 n _ (by exact HF.out) (by go_simp) (by go_simp) (by go_simp)).mono ?_); rintro e w' ⟨rfl, hb⟩) | go_in)
    go_ret
    exact ⟨⟨_, rfl⟩, (((Below.refl _ w).alloc (Nat.le_refl _) _).alloc (by simp) _).trans (hb.mono (by simp; omega))⟩
end Go.Proofs.YbulkoksFmt
