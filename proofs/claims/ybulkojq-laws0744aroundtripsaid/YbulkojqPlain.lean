import Derived.Test.YbulkojqWalks2
set_option linter.unusedVariables false
set_option linter.unusedSimpArgs false
namespace Go.Proofs.Ybulkojq
open Go.RowKit

/-- The number whose bits are these slots. -/
def mask : List Nat → Nat
  | [] => 0
  | s :: r => 2 ^ s + mask r

/-- Ascending slots, from 'lo' on, each under 64. -/
def Asc : Nat → List Nat → Prop
  | _, [] => True
  | lo, s :: r => lo ≤ s ∧ s < 64 ∧ Asc (s + 1) r

theorem asc_mono {ss : List Nat} {lo lo' : Nat} (h : Asc lo ss) (hl : lo' ≤ lo) : Asc lo' ss := by
  cases ss with
  | nil => trivial
  | cons s r => exact ⟨by have := h.1; omega, h.2⟩

theorem asc_snoc {s : Nat} (hs : s < 64) : ∀ {ss : List Nat} {lo : Nat}, Asc lo ss → lo ≤ s → (∀ x ∈ ss, x < s) → Asc lo (ss ++ [s])
  | [], lo, _, hl, _ => ⟨hl, hs, trivial⟩
  | x :: r, lo, h, hl, hx => ⟨h.1, h.2.1, asc_snoc hs h.2.2 (by have := hx x (by simp); omega) (fun y hy => hx y (by simp [hy]))⟩

theorem mask_append (a b : List Nat) : mask (a ++ b) = mask a + mask b := by
  induction a with
  | nil => simp [mask]
  | cons x r ih => simp [mask, ih]; omega

theorem mask_le {s : Nat} : ∀ {ss : List Nat} {lo : Nat}, Asc lo ss → lo ≤ s → (∀ x ∈ ss, x < s) → mask ss + 2 ^ lo ≤ 2 ^ s
  | [], lo, _, hl, _ => by simp [mask]; exact Nat.pow_le_pow_right (by omega) hl
  | x :: r, lo, h, hl, hx => by
    have h1 := mask_le h.2.2 (by have := hx x (by simp); omega) (fun y hy => hx y (by simp [hy]))
    have h2 : 2 ^ lo ≤ 2 ^ x := Nat.pow_le_pow_right (by omega) h.1
    have h3 : 2 ^ (x + 1) = 2 ^ x + 2 ^ x := by rw [Nat.pow_succ]; omega
    simp only [mask]
    omega

theorem asc_lt64 : ∀ {ss : List Nat} {lo : Nat}, Asc lo ss → ∀ x ∈ ss, x < 64
  | [], _, _, x, hx => by cases hx
  | y :: r, lo, h, x, hx => by
    rcases List.mem_cons.1 hx with rfl | hx
    · exact h.2.1
    · exact asc_lt64 h.2.2 x hx

theorem asc_ge : ∀ {ss : List Nat} {lo : Nat}, Asc lo ss → ∀ x ∈ ss, lo ≤ x
  | [], _, _, x, hx => by cases hx
  | y :: r, lo, h, x, hx => by
    rcases List.mem_cons.1 hx with rfl | hx
    · exact h.1
    · have := asc_ge h.2.2 x hx
      have := h.1
      omega

theorem mask_lt {ss : List Nat} (h : Asc 0 ss) : mask ss < 18446744073709551616 := by
  have := mask_le (s := 64) h (by omega) (asc_lt64 h)
  have e : (2 : Nat) ^ 64 = 18446744073709551616 := by decide
  omega

theorem mask_or {ss : List Nat} {s : Nat} (h : Asc 0 ss) (hx : ∀ x ∈ ss, x < s) : mask ss ||| 2 ^ s = mask (ss ++ [s]) := by
  have h1 := mask_le h (Nat.zero_le s) hx
  have h2 : mask ss < 2 ^ s := by simp at h1; omega
  have h3 := Nat.two_pow_add_eq_or_of_lt h2 1
  rw [Nat.mul_one] at h3
  rw [mask_append, Nat.or_comm, ← h3]
  simp [mask]
  omega

theorem mask_dvd : ∀ {ss : List Nat} {lo : Nat}, Asc lo ss → ∃ q, mask ss = 2 ^ lo * q
  | [], lo, _ => ⟨0, rfl⟩
  | x :: r, lo, h => by
    obtain ⟨q, hq⟩ := mask_dvd h.2.2
    refine ⟨2 ^ (x - lo) + 2 ^ (x + 1 - lo) * q, ?_⟩
    simp only [mask]
    have h1 := h.1
    rw [hq, Nat.mul_add, ← Nat.pow_add, ← Nat.mul_assoc, ← Nat.pow_add]
    congr 2 <;> congr 1 <;> omega

/-- The bit of the next slot is set. -/
theorem bit_yes {d r : List Nat} {i : Nat} (h0 : Asc 0 d) (hd : ∀ x ∈ d, x < i) (hr : Asc (i + 1) r) : mask (d ++ i :: r) / 2 ^ i % 2 = 1 := by
  obtain ⟨q, hq⟩ := mask_dvd hr
  have h1 := mask_le h0 (Nat.zero_le i) hd
  have h2 : mask d < 2 ^ i := by simp at h1; omega
  have h3 : mask (d ++ i :: r) = mask d + 2 ^ i * (1 + 2 * q) := by
    rw [mask_append]
    simp only [mask]
    rw [hq, Nat.pow_succ, Nat.mul_add, Nat.mul_one, Nat.mul_assoc]
  rw [h3, Nat.add_mul_div_left _ _ (Nat.two_pow_pos i), Nat.div_eq_of_lt h2]
  omega

/-- No slot: the bit is not set. -/
theorem bit_no {d r : List Nat} {i : Nat} (h0 : Asc 0 d) (hd : ∀ x ∈ d, x < i) (hr : Asc (i + 1) r) : mask (d ++ r) / 2 ^ i % 2 = 0 := by
  obtain ⟨q, hq⟩ := mask_dvd hr
  have h1 := mask_le h0 (Nat.zero_le i) hd
  have h2 : mask d < 2 ^ i := by simp at h1; omega
  have h3 : mask (d ++ r) = mask d + 2 ^ i * (2 * q) := by
    rw [mask_append, hq, Nat.pow_succ, Nat.mul_assoc]
  rw [h3, Nat.add_mul_div_left _ _ (Nat.two_pow_pos i), Nat.div_eq_of_lt h2]
  omega

/-- How many bits are set. -/
def pop : Nat → Nat → Nat
  | 0, _ => 0
  | n + 1, x => x % 2 + pop n (x / 2)

theorem pop_mask : ∀ (n lo : Nat) (ss : List Nat), lo + n = 64 → Asc lo ss → pop n (mask ss / 2 ^ lo) = ss.length
  | 0, lo, ss, hl, h => by
    cases ss with
    | nil => rfl
    | cons s r => have := h.1; have := h.2.1; omega
  | n + 1, lo, ss, hl, h => by
    have hdd : mask ss / 2 ^ lo / 2 = mask ss / 2 ^ (lo + 1) := by rw [Nat.div_div_eq_div_mul, Nat.pow_succ]
    simp only [pop, hdd]
    by_cases hc : ∃ r, ss = lo :: r
    · obtain ⟨r, rfl⟩ := hc
      have hb := bit_yes (d := []) (i := lo) (r := r) trivial (by simp) h.2.2
      simp only [List.nil_append] at hb
      rw [hb]
      obtain ⟨q, hq⟩ := mask_dvd h.2.2
      have h1 : mask (lo :: r) / 2 ^ (lo + 1) = mask r / 2 ^ (lo + 1) := by
        simp only [mask]
        rw [hq, Nat.add_mul_div_left _ _ (Nat.two_pow_pos _), Nat.mul_div_cancel_left _ (Nat.two_pow_pos _), Nat.div_eq_of_lt (by rw [Nat.pow_succ]; have := Nat.two_pow_pos lo; omega), Nat.zero_add]
      rw [h1, pop_mask n (lo + 1) r (by omega) h.2.2]
      simp
      omega
    · have ha : Asc (lo + 1) ss := by
        cases ss with
        | nil => trivial
        | cons s r =>
          refine ⟨?_, h.2⟩
          have h1 := h.1
          by_cases e : s = lo
          · exact absurd ⟨r, by rw [e]⟩ hc
          · omega
      have hb := bit_no (d := []) (i := lo) (r := ss) trivial (by simp) ha
      simp only [List.nil_append] at hb
      rw [hb, pop_mask n (lo + 1) ss (by omega) ha, Nat.zero_add]

theorem pop_len {ss : List Nat} (h : Asc 0 ss) : pop 64 (mask ss) = ss.length := by
  have := pop_mask 64 0 ss rfl h
  simpa using this

end Go.Proofs.Ybulkojq
