import Derived.Lib.VarintDec
import Derived.Lib.Varint
import Derived.Lib.VarintBits
namespace Go.Proofs.YbulkojqFmt
open Go

/-- What a Reader accepts at the front of l: a varint in its shortest form: its value and its length. -/
def dec (l : List UInt8) : Option (Nat × Nat) :=
  if (Lib.uvarintDec l).2 ≤ 0 then none
  else if 1 < (Lib.uvarintDec l).2 ∧ (l.getD ((Lib.uvarintDec l).2.toNat - 1) 1).toNat = 0 then none
  else some ((Lib.uvarintDec l).1, (Lib.uvarintDec l).2.toNat)

theorem uvarintFrom_le : ∀ (l : List UInt8) (i acc : Nat), (Lib.uvarintFrom i acc l).2 ≤ (i : Int) + l.length
  | [], i, acc => by simp [Lib.uvarintFrom]
  | b :: r, i, acc => by
    simp only [Lib.uvarintFrom]
    split
    · simp; omega
    · split
      · split
        · simp; omega
        · simp; omega
      · have := uvarintFrom_le r (i + 1) (acc + b.toNat % 128 * 2 ^ (7 * i))
        simp; omega

theorem uvarintDec_le (l : List UInt8) : (Lib.uvarintDec l).2 ≤ (l.length : Int) := by
  have := uvarintFrom_le l 0 0
  simpa [Lib.uvarintDec] using this

theorem dec_some {l : List UInt8} {v k : Nat} (h : dec l = some (v, k)) :
    (Lib.uvarintDec l).1 = v ∧ (Lib.uvarintDec l).2 = (k : Int) ∧ 1 ≤ k ∧ k ≤ l.length ∧ v < 18446744073709551616 ∧ (1 < k → (l.getD (k - 1) 1).toNat ≠ 0) := by
  unfold dec at h
  have h1 := uvarintDec_le l
  have h2 := Lib.uvarintDec_lt l
  split at h
  · cases h
  · rename_i hk
    split at h
    · cases h
    · rename_i hz
      simp only [Option.some.injEq, Prod.mk.injEq] at h
      obtain ⟨rfl, rfl⟩ := h
      refine ⟨rfl, by omega, by omega, by omega, h2, fun hk1 he => hz ⟨by omega, he⟩⟩

theorem dec_none {l : List UInt8} (h : dec l = none) :
    (Lib.uvarintDec l).2 = 0 ∨ (Lib.uvarintDec l).2 < 0 ∨ ∃ k : Nat, (Lib.uvarintDec l).2 = (k : Int) ∧ 1 < k ∧ k ≤ l.length ∧ (l.getD (k - 1) 1).toNat = 0 := by
  unfold dec at h
  have h1 := uvarintDec_le l
  split at h
  · rename_i hk
    omega
  · rename_i hk
    split at h
    · rename_i hz
      refine .inr (.inr ⟨(Lib.uvarintDec l).2.toNat, by omega, by omega, by omega, hz.2⟩)
    · cases h

theorem uvarintFrom_uvarint (t : List UInt8) : ∀ (n x i acc : Nat), x < n → i ≤ 9 → x * 2 ^ (7 * i) < 18446744073709551616 →
    Lib.uvarintFrom i acc (Lib.uvarint x ++ t) = (acc + x * 2 ^ (7 * i), (i : Int) + (Lib.uvarint x).length) := by
  intro n
  induction n with
  | zero => intro x i acc h; omega
  | succ n ih =>
    intro x i acc hn hi hx
    by_cases h : x < 128
    · rw [Lib.uvarint_small h]
      have hb : x.toUInt8.toNat = x := by simp; omega
      simp only [List.cons_append, List.nil_append, Lib.uvarintFrom, hb]
      rw [if_neg (by omega), if_pos h, if_neg]
      · simp
      · rintro ⟨rfl, h2⟩
        have e : (2 : Nat) ^ (7 * 9) = 9223372036854775808 := by decide
        rw [e] at hx
        omega
    · rw [Lib.uvarint_big (by omega)]
      have hb : (x % 128 + 128).toUInt8.toNat = x % 128 + 128 := by simp; omega
      simp only [List.cons_append, Lib.uvarintFrom, hb]
      have hp : (2 : Nat) ^ (7 * (i + 1)) = 128 * 2 ^ (7 * i) := by
        rw [show 7 * (i + 1) = 7 * i + 7 by omega, Nat.pow_add]
        omega
      have hdm : x = 128 * (x / 128) + x % 128 := (Nat.div_add_mod x 128).symm
      have hmul : x / 128 * 2 ^ (7 * (i + 1)) + x % 128 * 2 ^ (7 * i) = x * 2 ^ (7 * i) := by
        rw [hp]
        calc x / 128 * (128 * 2 ^ (7 * i)) + x % 128 * 2 ^ (7 * i) = (128 * (x / 128) + x % 128) * 2 ^ (7 * i) := by
              rw [Nat.add_mul]; congr 1; rw [← Nat.mul_assoc, Nat.mul_comm (x / 128) 128]
          _ = x * 2 ^ (7 * i) := by rw [← hdm]
      have hi9 : i + 1 ≤ 9 := by
        have h9 : i ≠ 9 := by
          rintro rfl
          have e : (2 : Nat) ^ (7 * 9) = 9223372036854775808 := by decide
          rw [e] at hx
          omega
        omega
      rw [if_neg (by omega), if_neg (by omega), ih (x / 128) (i + 1) _ (by omega) hi9 (by omega)]
      have e1 : (x % 128 + 128) % 128 = x % 128 := by omega
      rw [e1]
      simp only [Prod.mk.injEq, List.length_cons]
      exact ⟨by omega, by omega⟩

theorem uvarint_last : ∀ (n x : Nat), x < n → 0 < x → ((Lib.uvarint x).getD ((Lib.uvarint x).length - 1) 1).toNat ≠ 0 := by
  intro n
  induction n with
  | zero => intro x h; omega
  | succ n ih =>
    intro x hn hx
    by_cases h : x < 128
    · rw [Lib.uvarint_small h]
      simp
      omega
    · rw [Lib.uvarint_big (by omega)]
      have hp := Lib.uvarint_pos (x / 128)
      have := ih (x / 128) (by omega) (by omega)
      simp only [List.length_cons, Nat.add_sub_cancel]
      obtain ⟨m, hm⟩ : ∃ m, (Lib.uvarint (x / 128)).length = m + 1 := ⟨(Lib.uvarint (x / 128)).length - 1, by omega⟩
      rw [hm] at this ⊢
      simpa [List.getD_cons_succ] using this

/-- What is encoded is what is decoded, whatever follows. -/
theorem dec_uvarint (x : Nat) (hx : x < 18446744073709551616) (t : List UInt8) : dec (Lib.uvarint x ++ t) = some (x, (Lib.uvarint x).length) := by
  have h := uvarintFrom_uvarint t (x + 1) x 0 0 (by omega) (by omega) (by simpa using hx)
  have h' : Lib.uvarintDec (Lib.uvarint x ++ t) = (x, ((Lib.uvarint x).length : Int)) := by
    show Lib.uvarintFrom 0 0 (Lib.uvarint x ++ t) = _
    rw [h]; simp
  have hp := Lib.uvarint_pos x
  unfold dec
  rw [h']
  simp only [Int.toNat_natCast]
  rw [if_neg (by omega), if_neg]
  rintro ⟨h1, h2⟩
  have hx0 : 0 < x := by
    by_cases h0 : x = 0
    · subst h0
      rw [Lib.uvarint_small (by omega)] at h1
      simp at h1
    · omega
  refine uvarint_last (x + 1) x (by omega) hx0 ?_
  rw [← h2]
  rw [List.getD_eq_getElem?_getD, List.getD_eq_getElem?_getD, List.getElem?_append_left (by omega)]
end Go.Proofs.YbulkojqFmt
