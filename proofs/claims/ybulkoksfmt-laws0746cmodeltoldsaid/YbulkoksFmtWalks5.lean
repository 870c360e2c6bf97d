import Derived.Test.YbulkoksFmtWalks4
set_option linter.unusedVariables false
namespace Go.Proofs.YbulkoksFmt
open Go.RowKit Go.Extern.Stop Go.Stop Go.Extern

set_option maxHeartbeats 400000 in
theorem valid_proc (n : Nat) (pb cb proc : Int) (v1 v2 : Value) (w : World) (h0 : proc < 0 ∨ (n : Int) ≤ proc) :
    Calls Ybaf.prog 8 #[.int .i64 n, .int .i64 pb, .int .i64 cb, .int .i64 proc, v1, v2] w fun e w' => e = .returned (.bool false) ∧ w' = w := by
  rcases h0 with h0 | h0
  all_goals
    go_enter Ybaf.func8, Ybaf.ntmps8
    go_wp2
    go_ret
    exact ⟨rfl, rfl⟩

set_option maxHeartbeats 400000 in
theorem valid_len (n : Nat) (pb cb proc : Int) (a b : Option Addr) (n1 ca n2 cb' : Nat) (w : World) (h0 : 0 ≤ proc) (h1 : proc < n) (hne : n1 ≠ n ∨ n2 ≠ n) :
    Calls Ybaf.prog 8 #[.int .i64 n, .int .i64 pb, .int .i64 cb, .int .i64 proc, .slice a n1 ca, .slice b n2 cb'] w fun e w' => e = .returned (.bool false) ∧ w' = w := by
  by_cases hn1 : n1 = n
  · have hn2 : ((n2 : Int) == (n : Int)) = false := by simp; omega
    have hn2' : ((n2 : Int) != (n : Int)) = true := by simp; omega
    have HN : Hid (n1 ≠ n ∨ n2 ≠ n) := hne
    clear hne
    subst hn1
    go_enter Ybaf.func8, Ybaf.ntmps8
    go_wp2
    go_ret
    exact ⟨rfl, rfl⟩
  · have hn2 : ((n1 : Int) == (n : Int)) = false := by simp; omega
    have hn2' : ((n1 : Int) != (n : Int)) = true := by simp; omega
    clear hne
    go_enter Ybaf.func8, Ybaf.ntmps8
    go_wp2
    go_ret
    exact ⟨rfl, rfl⟩

set_option maxHeartbeats 2000000 in
theorem valid_shaped (n : Nat) (pb cb proc : Int) (g1 o1 ca g2 o2 cb' : Nat) (ps cs : List Int) (w : World) (hn : n ≤ 8) (h0 : 0 ≤ proc) (h1 : proc < n) (hp : IntsAt w g1 o1 n ps) (hc : IntsAt w g2 o2 n cs) :
    Calls Ybaf.prog 8 #[.int .i64 n, .int .i64 pb, .int .i64 cb, .int .i64 proc, .slice (some ⟨g1, o1, none⟩) n ca, .slice (some ⟨g2, o2, none⟩) n cb'] w fun e w' =>
      ((e = .returned (.bool true) ∧ ∀ j, j < n → Good pb cb ps cs j) ∨ (e = .returned (.bool false) ∧ ∃ j, j < n ∧ ¬ Good pb cb ps cs j)) ∧ w' = w := by
  have HP : Hid (IntsAt w g1 o1 n ps) := hp
  have HC : Hid (IntsAt w g2 o2 n cs) := hc
  clear hp hc
  go_enter Ybaf.func8, Ybaf.ntmps8
  go_wp2
  go_loop [13] (fun i => ∃ k : Nat, k ≤ n ∧ i = .int .i64 k ∧ (∀ j, j < k → Good pb cb ps cs j)) (fun i => n - (intOf i).toNat)
  case atStart => exact ⟨0, Nat.zero_le _, rfl, fun j hj => by omega⟩
  case round =>
    obtain ⟨k, hkn, rfl, hg⟩ := hrel
    have HG : Hid (∀ j, j < k → Good pb cb ps cs j) := hg
    clear hg
    by_cases hlt : k < n
    · have hpk := HP.out k hlt
      have hck := HC.out k hlt
      by_cases hgood : Good pb cb ps cs k
      · have HGk : Hid (∀ j, j < k + 1 → Good pb cb ps cs j) := Hid.mk (by
          intro j hj
          by_cases e : j = k
          · subst e; exact hgood
          · exact HG.out j (by omega))
        obtain ⟨q1, q2, q3, q4⟩ := hgood
        generalize ps.getD k 0 = ph at hpk q1 q2
        generalize cs.getD k 0 = ct at hck q3 q4
        go_wp2
        go_round
        case rel => exact ⟨k + 1, by omega, by go_num, HGk.out⟩
        case measure => simp [intOf]; omega
      · have HGk : Hid (¬ Good pb cb ps cs k) := hgood
        have hbad := not_good hgood
        clear hgood
        generalize ps.getD k 0 = ph at hpk hbad
        generalize cs.getD k 0 = ct at hck hbad
        rcases hbad with q1 | ⟨q0, q1⟩ | ⟨q0, q1, q2⟩ | ⟨q0, q1, q2, q3⟩
        all_goals
          go_wp2
          go_ret
          exact ⟨.inr ⟨rfl, k, hlt, HGk.out⟩, rfl⟩
    · obtain rfl : k = n := by omega
      go_wp2
      go_ret
      exact ⟨.inl ⟨rfl, HG.out⟩, rfl⟩

theorem info9 : (Ybaf.prog.info? 9).map (fun i => (i.zero, i.size, i.bytes)) = some (some (.string ⟨#[]⟩), 1, 16) := by kernel_rfl

/-- n strings lie in a row. -/
def StrsAt (w : World) (g o : Nat) (ss : List ByteArray) : Prop := ∀ j u, (ss.map Value.string)[j]? = some u → w.cell? ⟨g, o + j, none⟩ = some u

theorem strs_one (ss : List ByteArray) : ∀ u ∈ ss.map Value.string, u.oneCell' = true := by
  intro u hu
  obtain ⟨_, _, rfl⟩ := List.mem_map.1 hu
  rfl

set_option maxHeartbeats 400000 in
/-- slices.Clone of strings. -/
theorem clone_any (g o n c : Nat) (ss : List ByteArray) (w : World) (hl : ss.length = n) (hn : n ≤ 8) (hs : StrsAt w g o ss) :
    Calls Ybaf.prog 18 #[.slice (some ⟨g, o, none⟩) n c] w fun e w' => ∃ v', e = .returned v' ∧ w'.ownsRow w.heap.size 9 1 v' n (ss.map Value.string) ∧ Below w.heap.size w w' := by
  obtain ⟨i, hi, hz0, hz1, hz2⟩ := info_parts info9
  have HS : Hid (StrsAt w g o ss) := hs
  clear hs
  have heq : ∀ (W : World) (a : Option Addr) (l c : Nat), (binOp .eql 35 (.slice a l c) (.slice none 0 0)).run Ybaf.prog W = .ok (.bool a.isNone) W := fun W a l c => Lib.run_eql_slice_nil W 35 9 a l c 0 0 Ybaf.underlying35
  go_enter Ybaf.func18, Ybaf.ntmps18
  go_wp2_with (at_builtin; go_must (refine wpList_append_own _ rfl _ _ 35 rfl w.heap.size 9 i (.string ⟨#[]⟩) 1 16 Ybaf.underlying35 hi hz0 hz1 hz2 rfl (by omega) _ 0 [] rfl (World.ownsRow_made w #[] 0 (Nat.le_refl _) (Nat.zero_le _) (by simp)) ⟨g, o, none⟩ n c (ss.map Value.string) rfl (by simp; omega) ?c1 (strs_one _) (by unfold maxLen; omega) (by omega) (by simp) ?_))
  case c1 =>
    intro j u hj
    rw [Addr.add_lit]
    exact cell_later ((Below.refl _ w).alloc (Nat.le_refl _) _) (HS.out j u hj)
  intro v' w1 hown hgrow hnil
  go_wp2
  go_ret
  exact ⟨v', rfl, by simpa using hown, ((Below.refl _ w).alloc (Nat.le_refl _) _).grown hgrow (by simp) (by intro k hk; simp [Value.ownBlock] at hk; omega)⟩
end Go.Proofs.YbulkoksFmt
