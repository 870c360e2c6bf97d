import Derived.Test.YbulkoxqRows
import Derived.WalkKit
import Derived.WalkSpells
import Derived.Deep.QuietTactic
import Derived.BigQuiet
import Derived.Deep.RegionWith
import Derived.Deep.RegionHeld
import Derived.Maps.AppendAt
import Derived.Lib.AppendStr
import Derived.Laws.AppendOwnNone
import Derived.Laws.CopyRow
import Derived.Great.FillDense
import Derived.Below
set_option linter.unusedVariables false
namespace Go.Proofs.Ybulkoxq
open Go.RowKit

theorem Hid.mk {p : Prop} (h : p) : Hid p := h

/-- From w, with the own row of v, to w', with the own row of v': nothing that was there has turned but v's own row; v' lies in v's row, or in a new one. -/
structure Ap (w : World) (v : Value) (w' : World) (v' : Value) : Prop where
  grown : w.grownBy w' v.ownBlock
  lies : v'.ownBlock = v.ownBlock ∨ ∀ k, v'.ownBlock = some k → w.heap.size ≤ k

theorem Ap.refl (w : World) (v : Value) : Ap w v w v := ⟨World.grownBy.refl _ _, .inl rfl⟩

theorem Ap.trans {a b c : World} {u v x : Value} (h : Ap a u b v) (k : Ap b v c x) : Ap a u c x := by
  refine ⟨⟨k.grown.os.trans h.grown.os, k.grown.tape.trans h.grown.tape, k.grown.output.trans h.grown.output, Nat.le_trans h.grown.size k.grown.size, fun i hi hne => ?_⟩, ?_⟩
  · rw [k.grown.block i (Nat.lt_of_lt_of_le hi h.grown.size) ?_, h.grown.block i hi hne]
    intro e
    rcases h.lies with hl | hl
    · exact hne (e.trans hl)
    · have := hl i e.symm
      omega
  · rcases k.lies with kl | kl
    · rcases h.lies with hl | hl
      · exact .inl (kl.trans hl)
      · exact .inr fun i hi => hl i (kl ▸ hi)
    · exact .inr fun i hi => Nat.le_trans h.grown.size (kl i hi)

theorem Ap.alloc {a b : World} {u v : Value} (h : Ap a u b v) (o : Obj) : Ap a u (b.alloc o) v :=
  h.trans ⟨⟨rfl, rfl, rfl, by simp, fun k hk _ => heap_alloc_old b o hk⟩, .inl rfl⟩

/-- A block that is not the own row's is as it was. -/
theorem Ap.block {a b : World} {u v : Value} (h : Ap a u b v) {k : Nat} (hk : k < a.heap.size) (hne : u.ownBlock ≠ some k) : b.heap[k]? = a.heap[k]? :=
  h.grown.block k hk fun e => hne e.symm

theorem Ap.below {a b : World} {u v : Value} {B : Nat} (h : Ap a u b v) (hB : B ≤ a.heap.size) (hr : ∀ k, u.ownBlock = some k → B ≤ k) : Below B a b :=
  (Below.refl _ a).grown h.grown hB hr

theorem own_ge {w : World} {B n : Nat} {v : Value} {xs : List Value} (h : w.ownsRow B 5 1 v n xs) : ∀ k, v.ownBlock = some k → B ≤ k := fun k hk => (h.lt k hk).1

theorem info5 : (Yba.prog.info? 5).map (fun i => (i.zero, i.size, i.bytes)) = some (some (.int .u8 0), 1, 1) := by kernel_rfl

/-- 'append(v, xs...)' onto a row of bytes that the call owns, whatever the shape of what is appended (nil too). -/
theorem app {w : World} {ops : Array Oper} {rest : List Oper} {o : Oper} {a : Act} {Q : Exit → Act → World → Prop} (hgd : o.guard = none) (s x : Operand)
    (ho : o.op = .call { callee := .builtin .append, args := #[s, x], argTypes := #[22, 22] })
    (B : Nat) (v : Value) (n : Nat) (xs : List Value) (hs : a.eval s = v) (hown : w.ownsRow B 5 1 v n xs)
    (ao : Option Addr) (m c : Nat) (news : List Value) (hx : a.eval x = .slice ao m c) (hl : news.length = m) (hnone : ao = none → m = 0 ∧ c = 0) (hnews : ∀ ad, ao = some ad → ∀ j u, news[j]? = some u → w.cell? (ad.add j) = some u) (h1 : ∀ u ∈ news, u.oneCell' = true)
    (hlim : n + m ≤ 140737488355328) (hbase : B ≤ w.heap.size)
    (h : ∀ v' w', w'.ownsRow B 5 1 v' (n + m) (xs ++ news) → Ap w v w' v' → wpList Yba.prog ops Q rest (a.put o.dst v') w') : wpList Yba.prog ops Q (o :: rest) a w := by
  obtain ⟨i, hi, hz0, hz1, hz2⟩ := info_parts info5
  cases ao with
  | some ad =>
    refine wpList_append_own_at w hgd s x 22 ho B 5 i (.int .u8 0) 1 1 Yba.underlying22 hi hz0 hz1 hz2 rfl (by omega) v n xs hs hown ad m c news hx (by simpa using hl) (hnews ad rfl) h1 (by unfold maxLen; omega) (by omega) hbase fun v' w' h2 h3 _ h5 => h v' w' h2 ⟨h3, ?_⟩
    rcases h5 with h5 | h5
    · exact .inl h5
    · exact .inr fun k hk => by rw [h5] at hk; cases hk; exact Nat.le_refl _
  | none =>
    obtain ⟨rfl, rfl⟩ := hnone rfl
    have hnn : news = [] := List.eq_nil_of_length_eq_zero hl
    subst hnn
    refine wpList_plain hgd fun K hK' => ?_
    have hrun := run_append_owned_none (P := Yba.prog) w B 22 o.type 5 i 1 Yba.underlying22 hi _ n xs hown
    unfold Oper.wp
    simp [execOp, ho, resolve, invoke, builtin, hs, hx, hrun, Result.andThen]
    exact hK' _ _ (by simpa using h v w (by simpa using hown) (Ap.refl _ _))

/-- 'append(v, s...)' of a string. -/
theorem app_str {w : World} {ops : Array Oper} {rest : List Oper} {o : Oper} {a : Act} {Q : Exit → Act → World → Prop} (hgd : o.guard = none) (s x : Operand)
    (ho : o.op = .call { callee := .builtin .append, args := #[s, x], argTypes := #[22, 9] })
    (B : Nat) (v : Value) (n : Nat) (xs : List Value) (hs : a.eval s = v) (hown : w.ownsRow B 5 1 v n xs)
    (b : ByteArray) (hx : a.eval x = .string b)
    (hlim : n + b.size ≤ 140737488355328) (hbase : B ≤ w.heap.size)
    (h : ∀ v' w', w'.ownsRow B 5 1 v' (n + b.size) (xs ++ Lib.strCells b) → Below B w w' → wpList Yba.prog ops Q rest (a.put o.dst v') w') : wpList Yba.prog ops Q (o :: rest) a w := by
  obtain ⟨i, hi, hz0, hz1, hz2⟩ := info_parts info5
  exact Lib.wpList_append_own_string w hgd s x 22 9 ho B 5 i Yba.underlying22 Yba.underlying9 hi hz0 hz1 hz2 v n xs hs hown b hx (by unfold maxLen; omega) hlim hbase fun v' w' h2 h3 _ => h v' w' h2 ((Below.refl _ w).grown h3 hbase (own_ge hown))

theorem one_of_u8 {l : List Value} (h : ∀ u ∈ l, ∃ z, u = .int .u8 z) : ∀ u ∈ l, u.oneCell' = true := fun u hu => by
  obtain ⟨z, rfl⟩ := h u hu
  rfl

/-- The varint of a number below 16384, as cells. -/
def uvl (x : Nat) : List Value := if x < 128 then [.int .u8 x] else [.int .u8 (bits .or .u8 ((x : Int) % 256) 128), .int .u8 ((x / 128 : Nat) : Int)]

set_option maxHeartbeats 400000 in
theorem uv18 (B n x : Nat) (hx : x ≤ 1024) (v : Value) (xs : List Value) (w : World) (hown : w.ownsRow B 5 1 v n xs) (hB : B ≤ w.heap.size) (hlim : n + 10 ≤ 140737488355328) :
    Calls Yba.prog 18 #[v, .int .u64 x] w fun e w' => ∃ v', e = .returned v' ∧ w'.ownsRow B 5 1 v' (n + (uvl x).length) (xs ++ uvl x) ∧ Ap w v w' v' := by
  go_enter Yba.func18, Yba.ntmps18
  go_wp2
  go_loopw [0, 1] (fun vb vv wr => ∃ (k y : Nat) (ys : List Value), vv = .int .u64 y ∧ wr.ownsRow B 5 1 vb (n + k) (xs ++ ys) ∧ Ap w v wr vb ∧ k ≤ 1 ∧ y ≤ 1024 ∧ uvl x = ys ++ uvl y ∧ ys.length = k ∧ (k = 1 → y < 128)) (fun _ vv _ => (intOf vv).toNat)
  case atStart => exact ⟨0, x, [], rfl, by simpa using hown, Ap.refl _ _, by omega, hx, rfl, rfl, by omega⟩
  case round =>
    obtain ⟨k, y, ys, rfl, ho, ha, hk, hy, hu, hyl, hk1⟩ := hrel
    have HO := Hid.mk ho
    have HA := Hid.mk ha
    have HU := Hid.mk hu
    have HL := Hid.mk hyl
    have hBr : B ≤ wr.heap.size := Nat.le_trans hB ha.grown.size
    clear ho ha hu hyl hown
    by_cases hlt : 128 ≤ y
    · obtain rfl : k = 0 := by omega
      have hlt' : (128 : Int) ≤ (y : Int) := by omega
      go_wp2_with (at_builtin; go_must (refine app rfl _ _ rfl B _ (n + 0) _ rfl (HO.out.alloc _) _ 1 1 _ rfl rfl (by intro h; cases h) (by intro ad had; cases had; exact cell_one_new _ _ _) (by simp [Value.oneCell']) (by omega) (by simp; omega) ?_); intro v1 w1 ho1 ha1; have HO1 := Hid.mk ho1; have HA1 := Hid.mk ha1; clear ho1 ha1)
      refine ⟨⟨1, y / 128, ys ++ [.int .u8 (bits .or .u8 ((y : Int) % 256) 128)], by simp, by simpa using HO1.out, (HA.out.alloc _).trans HA1.out, by omega, by omega, ?_, by simp [HL.out], by omega⟩, ?_⟩
      · rw [HU.out]
        have h1 : ¬ y < 128 := by omega
        have h2 : y / 128 < 128 := by omega
        simp [uvl, h1, h2]
      · simp [intOf]
        omega
    · have hlt' : ¬ (128 : Int) ≤ (y : Int) := by omega
      go_wp2_with (at_builtin; go_must (refine app rfl _ _ rfl B _ (n + k) _ rfl (HO.out.alloc _) _ 1 1 _ rfl rfl (by intro h; cases h) (by intro ad had; cases had; exact cell_one_new _ _ _) (by simp [Value.oneCell']) (by omega) (by simp; omega) ?_); intro v1 w1 ho1 ha1; have HO1 := Hid.mk ho1; have HA1 := Hid.mk ha1; clear ho1 ha1)
      go_ret
      have h1 : y < 128 := by omega
      have h3 : uvl x = ys ++ [.int .u8 (y : Int)] := by rw [HU.out]; simp [uvl, h1]
      refine ⟨_, rfl, ?_, (HA.out.alloc _).trans HA1.out⟩
      have h4 := HO1.out
      rw [h3]
      have h5 : n + (ys ++ [Value.int .u8 (y : Int)]).length = n + k + 1 := by simp [HL.out]; omega
      rw [h5, ← List.append_assoc]
      exact h4

set_option maxHeartbeats 400000 in
theorem uv21 (B n x : Nat) (hx : x ≤ 1024) (v : Value) (xs : List Value) (w : World) (hown : w.ownsRow B 5 1 v n xs) (hB : B ≤ w.heap.size) (hlim : n + 10 ≤ 140737488355328) :
    Calls Yba.prog 21 #[v, .int .u64 x] w fun e w' => ∃ v', e = .returned v' ∧ w'.ownsRow B 5 1 v' (n + (uvl x).length) (xs ++ uvl x) ∧ Ap w v w' v' := by
  go_enter Yba.func21, Yba.ntmps21
  go_wp2
  go_loopw [0, 1] (fun vb vv wr => ∃ (k y : Nat) (ys : List Value), vv = .int .u64 y ∧ wr.ownsRow B 5 1 vb (n + k) (xs ++ ys) ∧ Ap w v wr vb ∧ k ≤ 1 ∧ y ≤ 1024 ∧ uvl x = ys ++ uvl y ∧ ys.length = k ∧ (k = 1 → y < 128)) (fun _ vv _ => (intOf vv).toNat)
  case atStart => exact ⟨0, x, [], rfl, by simpa using hown, Ap.refl _ _, by omega, hx, rfl, rfl, by omega⟩
  case round =>
    obtain ⟨k, y, ys, rfl, ho, ha, hk, hy, hu, hyl, hk1⟩ := hrel
    have HO := Hid.mk ho
    have HA := Hid.mk ha
    have HU := Hid.mk hu
    have HL := Hid.mk hyl
    have hBr : B ≤ wr.heap.size := Nat.le_trans hB ha.grown.size
    clear ho ha hu hyl hown
    by_cases hlt : 128 ≤ y
    · obtain rfl : k = 0 := by omega
      have hlt' : (128 : Int) ≤ (y : Int) := by omega
      go_wp2_with (at_builtin; go_must (refine app rfl _ _ rfl B _ (n + 0) _ rfl (HO.out.alloc _) _ 1 1 _ rfl rfl (by intro h; cases h) (by intro ad had; cases had; exact cell_one_new _ _ _) (by simp [Value.oneCell']) (by omega) (by simp; omega) ?_); intro v1 w1 ho1 ha1; have HO1 := Hid.mk ho1; have HA1 := Hid.mk ha1; clear ho1 ha1)
      refine ⟨⟨1, y / 128, ys ++ [.int .u8 (bits .or .u8 ((y : Int) % 256) 128)], by simp, by simpa using HO1.out, (HA.out.alloc _).trans HA1.out, by omega, by omega, ?_, by simp [HL.out], by omega⟩, ?_⟩
      · rw [HU.out]
        have h1 : ¬ y < 128 := by omega
        have h2 : y / 128 < 128 := by omega
        simp [uvl, h1, h2]
      · simp [intOf]
        omega
    · have hlt' : ¬ (128 : Int) ≤ (y : Int) := by omega
      go_wp2_with (at_builtin; go_must (refine app rfl _ _ rfl B _ (n + k) _ rfl (HO.out.alloc _) _ 1 1 _ rfl rfl (by intro h; cases h) (by intro ad had; cases had; exact cell_one_new _ _ _) (by simp [Value.oneCell']) (by omega) (by simp; omega) ?_); intro v1 w1 ho1 ha1; have HO1 := Hid.mk ho1; have HA1 := Hid.mk ha1; clear ho1 ha1)
      go_ret
      have h1 : y < 128 := by omega
      have h3 : uvl x = ys ++ [.int .u8 (y : Int)] := by rw [HU.out]; simp [uvl, h1]
      refine ⟨_, rfl, ?_, (HA.out.alloc _).trans HA1.out⟩
      have h4 := HO1.out
      rw [h3]
      have h5 : n + (ys ++ [Value.int .u8 (y : Int)]).length = n + k + 1 := by simp [HL.out]; omega
      rw [h5, ← List.append_assoc]
      exact h4

/-- A number's eight bytes, the greatest first, as cells. -/
def bel (x : Nat) : List Value := [.int .u8 ((x : Int) / 72057594037927936), .int .u8 ((x : Int) / 281474976710656 % 256), .int .u8 ((x : Int) / 1099511627776 % 256), .int .u8 ((x : Int) / 4294967296 % 256), .int .u8 ((x : Int) / 16777216 % 256), .int .u8 ((x : Int) / 65536 % 256), .int .u8 ((x : Int) / 256 % 256), .int .u8 ((x : Int) % 256)]

theorem add_at (g o j : Nat) : (⟨g, o, none⟩ : Addr).add j = ⟨g, o + j, none⟩ := by unfold Addr.add; split <;> simp_all

/-- The cells of a block, from an offset on. -/
theorem cells_of {w : World} {g o : Nat} {c : Array Value} {t : TypeId} {l : List Value} (h : w.heap[g]? = some (.cells c t (0, 0))) (hl : ∀ j u, l[j]? = some u → c[o + j]? = some u) : ∀ j u, l[j]? = some u → w.cell? ((⟨g, o, none⟩ : Addr).add j) = some u := by
  intro j u hu
  rw [add_at]
  simp [World.cell?, h, hl j u hu]

theorem cells_new (w : World) (c : Array Value) (t : TypeId) (g : Nat) (l : List Value) (hg : g = w.heap.size) (hl : c.toList = l) : ∀ j u, l[j]? = some u → (w.alloc (.cells c t)).cell? ((⟨g, 0, none⟩ : Addr).add j) = some u := by
  subst hg
  subst hl
  exact cells_of (heap_alloc_new w _) (by intro j u hu; simpa using hu)

set_option maxHeartbeats 400000 in
theorem be20 (B n x : Nat) (hx : x < 18446744073709551616) (v : Value) (xs : List Value) (w : World) (hown : w.ownsRow B 5 1 v n xs) (hB : B ≤ w.heap.size) (hlim : n + 10 ≤ 140737488355328) :
    Calls Yba.prog 20 #[.agg #[], v, .int .u64 x] w fun e w' => ∃ v', e = .returned v' ∧ w'.ownsRow B 5 1 v' (n + 8) (xs ++ bel x) ∧ Ap w v w' v' := by
  have HO := Hid.mk hown
  clear hown
  go_enter Yba.func20, Yba.ntmps20
  go_wp2_with (at_builtin; go_must (refine app rfl _ _ rfl B _ n _ rfl ((HO.out.alloc _).alloc _) _ 8 8 (bel x) rfl rfl (by intro h; cases h) (by intro ad had; cases had; exact cells_new _ _ _ _ _ (by simp) rfl) (by simp [bel, Value.oneCell']) (by omega) (by simp; omega) ?_); intro v1 w1 ho1 ha1; have HO1 := Hid.mk ho1; have HA1 := Hid.mk ha1; clear ho1 ha1)
  go_ret
  exact ⟨_, rfl, HO1.out, (((Ap.refl _ _).alloc _).alloc _).trans HA1.out⟩

set_option maxHeartbeats 1000000 in
theorem be19 (B n x : Nat) (hx : x < 18446744073709551616) (v : Value) (xs : List Value) (w : World) (hown : w.ownsRow B 5 1 v n xs) (hB : B ≤ w.heap.size) (hlim : n + 10 ≤ 140737488355328) :
    Calls Yba.prog 19 #[v, .int .u64 x] w fun e w' => ∃ v', e = .returned v' ∧ w'.ownsRow B 5 1 v' (n + 8) (xs ++ bel x) ∧ Ap w v w' v' := by
  go_enter Yba.func19, Yba.ntmps19
  go_wp2
  go_loopw [0, 5] (fun vb vi wr => ∃ k : Nat, k ≤ 8 ∧ vi = .int .i64 (56 - 8 * (k : Int)) ∧ wr.ownsRow B 5 1 vb (n + k) (xs ++ (bel x).take k) ∧ Ap w v wr vb) (fun _ vi _ => (intOf vi + 8).toNat)
  case atStart => exact ⟨0, by omega, rfl, by simpa using hown, Ap.refl _ _⟩
  case round =>
    obtain ⟨k, hk, rfl, ho, ha⟩ := hrel
    have HO := Hid.mk ho
    have HA := Hid.mk ha
    have hBr : B ≤ wr.heap.size := Nat.le_trans hB ha.grown.size
    clear ho ha hown
    by_cases h8 : k = 8
    · subst h8
      go_wp2
      go_ret
      exact ⟨_, rfl, by simpa [bel] using HO.out, HA.out⟩
    · obtain rfl | rfl | rfl | rfl | rfl | rfl | rfl | rfl : k = 0 ∨ k = 1 ∨ k = 2 ∨ k = 3 ∨ k = 4 ∨ k = 5 ∨ k = 6 ∨ k = 7 := by omega
      all_goals
        go_wp2_with (at_builtin; go_must (refine app rfl _ _ rfl B _ _ _ rfl (HO.out.alloc _) _ 1 1 _ rfl rfl (by intro h; cases h) (by intro ad had; cases had; exact cell_one_new _ _ _) (by simp [Value.oneCell']) (by omega) (by simp; omega) ?_); intro v1 w1 ho1 ha1; have HO1 := Hid.mk ho1; have HA1 := Hid.mk ha1; clear ho1 ha1)
      all_goals first | exact ⟨⟨1, by omega, rfl, by simpa [bel] using HO1.out, (HA.out.alloc _).trans HA1.out⟩, by simp [intOf]⟩ | exact ⟨⟨2, by omega, rfl, by simpa [bel] using HO1.out, (HA.out.alloc _).trans HA1.out⟩, by simp [intOf]⟩ | exact ⟨⟨3, by omega, rfl, by simpa [bel] using HO1.out, (HA.out.alloc _).trans HA1.out⟩, by simp [intOf]⟩ | exact ⟨⟨4, by omega, rfl, by simpa [bel] using HO1.out, (HA.out.alloc _).trans HA1.out⟩, by simp [intOf]⟩ | exact ⟨⟨5, by omega, rfl, by simpa [bel] using HO1.out, (HA.out.alloc _).trans HA1.out⟩, by simp [intOf]⟩ | exact ⟨⟨6, by omega, rfl, by simpa [bel] using HO1.out, (HA.out.alloc _).trans HA1.out⟩, by simp [intOf]⟩ | exact ⟨⟨7, by omega, rfl, by simpa [bel] using HO1.out, (HA.out.alloc _).trans HA1.out⟩, by simp [intOf]⟩ | exact ⟨⟨8, by omega, rfl, by simpa [bel] using HO1.out, (HA.out.alloc _).trans HA1.out⟩, by simp [intOf]⟩
end Go.Proofs.Ybulkoxq
