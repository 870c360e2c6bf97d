import Derived.Test.YbulkojqPlain
import Derived.Laws.BitsAllLaws
set_option linter.unusedVariables false
set_option linter.unusedSimpArgs false
namespace Go.Proofs.Ybulkojq
open Go.RowKit

/-- Neighbouring digits of base B summed, n pairs. -/
def dsum (B : Nat) : Nat → Nat → Nat
  | 0, _ => 0
  | n + 1, x => (x / B % B + x % B) + B * B * dsum B n (x / (B * B))

/-- The mask of every other digit. -/
def dmask (B : Nat) : Nat → Nat
  | 0 => 0
  | n + 1 => (B - 1) + B * B * dmask B n

/-- The sum of n digits. -/
def psum (B : Nat) : Nat → Nat → Nat
  | 0, _ => 0
  | n + 1, x => x % B + psum B n (x / B)

/-- n digits, none over k. -/
def Digs (B k : Nat) : Nat → Nat → Prop
  | 0, x => x = 0
  | n + 1, x => x % B ≤ k ∧ Digs B k n (x / B)

theorem and_split (k x m : Nat) : x &&& m = 2 ^ k * ((x / 2 ^ k) &&& (m / 2 ^ k)) + ((x % 2 ^ k) &&& (m % 2 ^ k)) := by
  rw [← Nat.and_div_two_pow, ← Nat.and_mod_two_pow, Nat.div_add_mod]

theorem and_step (j m x : Nat) : x &&& ((2 ^ j - 1) + 2 ^ j * 2 ^ j * m) = 2 ^ j * 2 ^ j * ((x / (2 ^ j * 2 ^ j)) &&& m) + x % 2 ^ j := by
  have hp : 0 < 2 ^ j := Nat.two_pow_pos j
  have e : 2 ^ j * 2 ^ j = 2 ^ (j + j) := (Nat.pow_add 2 j j).symm
  have hle : 2 ^ j ≤ 2 ^ j * 2 ^ j := Nat.le_mul_of_pos_left _ hp
  rw [and_split (j + j), ← e]
  have h1 : ((2 ^ j - 1) + 2 ^ j * 2 ^ j * m) / (2 ^ j * 2 ^ j) = m := by
    rw [Nat.add_mul_div_left _ _ (Nat.mul_pos hp hp), Nat.div_eq_of_lt (by omega), Nat.zero_add]
  have h2 : ((2 ^ j - 1) + 2 ^ j * 2 ^ j * m) % (2 ^ j * 2 ^ j) = 2 ^ j - 1 := by
    rw [Nat.add_mul_mod_self_left, Nat.mod_eq_of_lt (by omega)]
  rw [h1, h2, Nat.and_two_pow_sub_one_eq_mod, Nat.mod_mod_of_dvd _ (Nat.dvd_mul_left _ _)]

theorem dsum_and (j : Nat) : ∀ n x, (x / 2 ^ j &&& dmask (2 ^ j) n) + (x &&& dmask (2 ^ j) n) = dsum (2 ^ j) n x
  | 0, x => by simp [dmask, dsum]
  | n + 1, x => by
    simp only [dmask, dsum]
    rw [and_step, and_step, ← dsum_and j n (x / (2 ^ j * 2 ^ j))]
    have e : x / 2 ^ j / (2 ^ j * 2 ^ j) = x / (2 ^ j * 2 ^ j) / 2 ^ j := by
      rw [Nat.div_div_eq_div_mul, Nat.div_div_eq_div_mul, Nat.mul_comm]
    rw [e, Nat.mul_add]
    omega

theorem psum_dsum {B : Nat} (hB : 2 ≤ B) : ∀ n x, psum (B * B) n (dsum B n x) = psum B (n + n) x
  | 0, x => rfl
  | n + 1, x => by
    have hb : 0 < B := by omega
    have h1 : x % B < B := Nat.mod_lt _ hb
    have h2 : x / B % B < B := Nat.mod_lt _ hb
    have h3 : B + B ≤ B * B := by
      have := Nat.mul_le_mul_right B hB
      omega
    have h4 : x / B % B + x % B < B * B := by omega
    have e : n + 1 + (n + 1) = (n + n) + 1 + 1 := by omega
    rw [e]
    simp only [psum, dsum]
    rw [Nat.add_mul_mod_self_left, Nat.mod_eq_of_lt h4, Nat.add_mul_div_left _ _ (Nat.mul_pos hb hb), Nat.div_eq_of_lt h4, Nat.zero_add, psum_dsum hB n, Nat.div_div_eq_div_mul]
    omega

theorem digs_dsum {B k : Nat} (hB : 2 ≤ B) (hk : k < B) : ∀ n x, Digs B k (n + n) x → Digs (B * B) (k + k) n (dsum B n x)
  | 0, x, h => rfl
  | n + 1, x, h => by
    have e : n + 1 + (n + 1) = (n + n) + 1 + 1 := by omega
    rw [e] at h
    obtain ⟨q1, q2, q3⟩ := h
    have hb : 0 < B := by omega
    have h3 : B + B ≤ B * B := by
      have := Nat.mul_le_mul_right B hB
      omega
    have h4 : x / B % B + x % B < B * B := by omega
    refine ⟨?_, ?_⟩
    · simp only [dsum]
      rw [Nat.add_mul_mod_self_left, Nat.mod_eq_of_lt h4]
      omega
    · simp only [dsum]
      rw [Nat.add_mul_div_left _ _ (Nat.mul_pos hb hb), Nat.div_eq_of_lt h4, Nat.zero_add]
      rw [Nat.div_div_eq_div_mul] at q3
      exact digs_dsum hB hk n _ q3

theorem digs_top {B k : Nat} : ∀ n x, Digs B k (n + 1) x → x / B ^ n ≤ k
  | 0, x, h => by
    obtain ⟨h1, h2⟩ := h
    have h2 : x / B = 0 := h2
    have := Nat.div_add_mod x B
    rw [h2] at this
    simp at this
    simp
    omega
  | n + 1, x, h => by
    have := digs_top n (x / B) h.2
    rwa [Nat.div_div_eq_div_mul, Nat.mul_comm, ← Nat.pow_succ] at this

theorem digs_two : ∀ n x, x < 2 ^ n → Digs 2 1 n x
  | 0, x, h => by simp at h; exact h
  | n + 1, x, h => ⟨by omega, digs_two n (x / 2) (by rw [Nat.pow_succ] at h; omega)⟩

theorem pop_psum : ∀ n x, pop n x = psum 2 n x
  | 0, _ => rfl
  | n + 1, x => by simp only [pop, psum]; rw [pop_psum n]

theorem nib_step : ∀ n x, Digs 16 4 (n + n) x → (x / 16 + x) &&& dmask 16 n = dsum 16 n x
  | 0, x, h => by simp [dmask, dsum]
  | n + 1, x, h => by
    have e : n + 1 + (n + 1) = (n + n) + 1 + 1 := by omega
    rw [e] at h
    obtain ⟨q1, q2, q3⟩ := h
    have q4 : x / 16 / 16 % 16 ≤ 4 := by
      cases n with
      | zero =>
        have q3 : x / 16 / 16 = 0 := q3
        omega
      | succ n =>
        have e : n + 1 + (n + 1) = (n + n) + 1 + 1 := by omega
        rw [e] at q3
        exact q3.1
    have a := and_step 4 (dmask 16 n) (x / 16 + x)
    have e2 : (2 : Nat) ^ 4 = 16 := by decide
    rw [e2] at a
    have d1 : dmask 16 (n + 1) = (16 - 1) + 16 * 16 * dmask 16 n := rfl
    have d2 : dsum 16 (n + 1) x = (x / 16 % 16 + x % 16) + 16 * 16 * dsum 16 n (x / (16 * 16)) := rfl
    obtain ⟨q, hq⟩ : ∃ q, q = x / 16 / 16 / 16 := ⟨_, rfl⟩
    obtain ⟨c2, hc2⟩ : ∃ c, c = x / 16 / 16 % 16 := ⟨_, rfl⟩
    obtain ⟨c1, hc1⟩ : ∃ c, c = x / 16 % 16 := ⟨_, rfl⟩
    obtain ⟨c0, hc0⟩ : ∃ c, c = x % 16 := ⟨_, rfl⟩
    have u2 : x / 16 / 16 = 16 * q + c2 := by omega
    have u1 : x / 16 = 256 * q + 16 * c2 + c1 := by omega
    have u0 : x = 4096 * q + 256 * c2 + 16 * c1 + c0 := by omega
    have u3 : x / (16 * 16) = 16 * q + c2 := by rw [← u2, Nat.div_div_eq_div_mul]
    have e3 : (x / 16 + x) / (16 * 16) = x / (16 * 16) / 16 + x / (16 * 16) := by
      rw [u3, u1]
      have z1 : (16 * q + c2) / 16 = q := by omega
      have z2 : 256 * q + 16 * c2 + c1 + x = 256 * (17 * q + c2) + (16 * c2 + 17 * c1 + c0) := by omega
      rw [z1, z2, Nat.mul_add_div (by omega), Nat.div_eq_of_lt (by omega)]
      omega
    have e4 : (x / 16 + x) % 16 = x / 16 % 16 + x % 16 := by
      rw [← hc1, ← hc0, u1]
      omega
    clear hq hc2 hc1 hc0 u2 u1 u0 u3
    rw [d1, a, d2, e3, e4, nib_step n (x / (16 * 16)) (by rw [Nat.div_div_eq_div_mul] at q3; exact q3)]
    omega

theorem fold8 (y : Nat) (h : Digs 256 8 8 y) : (((y + y / 256) + (y + y / 256) / 65536) + ((y + y / 256) + (y + y / 256) / 65536) / 4294967296) % 128 = psum 256 8 y := by
  obtain ⟨h0, h1, h2, h3, h4, h5, h6, h7, h8⟩ := h
  have h8 : y / 256 / 256 / 256 / 256 / 256 / 256 / 256 / 256 = 0 := h8
  simp only [psum]
  have k0 := Nat.div_add_mod y 256
  have k1 := Nat.div_add_mod (y / 256) 256
  have k2 := Nat.div_add_mod (y / 256 / 256) 256
  have k3 := Nat.div_add_mod (y / 256 / 256 / 256) 256
  have k4 := Nat.div_add_mod (y / 256 / 256 / 256 / 256) 256
  have k5 := Nat.div_add_mod (y / 256 / 256 / 256 / 256 / 256) 256
  have k6 := Nat.div_add_mod (y / 256 / 256 / 256 / 256 / 256 / 256) 256
  have k7 := Nat.div_add_mod (y / 256 / 256 / 256 / 256 / 256 / 256 / 256) 256
  rw [h8] at k7
  generalize y / 256 / 256 / 256 / 256 / 256 / 256 / 256 % 256 = c7 at *
  generalize y / 256 / 256 / 256 / 256 / 256 / 256 / 256 = t7 at *
  generalize y / 256 / 256 / 256 / 256 / 256 / 256 % 256 = c6 at *
  generalize y / 256 / 256 / 256 / 256 / 256 / 256 = t6 at *
  generalize y / 256 / 256 / 256 / 256 / 256 % 256 = c5 at *
  generalize y / 256 / 256 / 256 / 256 / 256 = t5 at *
  generalize y / 256 / 256 / 256 / 256 % 256 = c4 at *
  generalize y / 256 / 256 / 256 / 256 = t4 at *
  generalize y / 256 / 256 / 256 % 256 = c3 at *
  generalize y / 256 / 256 / 256 = t3 at *
  generalize y / 256 / 256 % 256 = c2 at *
  generalize y / 256 / 256 = t2 at *
  generalize y / 256 % 256 = c1 at *
  generalize y / 256 = t1 at *
  generalize y % 256 = c0 at *
  have a1 : (y + t1) / 65536 = t2 + t3 := by
    have : y + t1 = 65536 * (t2 + t3) + (256 * (c1 + c2) + (c0 + c1)) := by omega
    rw [this, Nat.mul_add_div (by omega), Nat.div_eq_of_lt (by omega), Nat.add_zero]
  have a2 : (y + t1 + (t2 + t3)) / 4294967296 = t4 + t5 + t6 + t7 := by
    have : y + t1 + (t2 + t3) = 4294967296 * (t4 + t5 + t6 + t7) + (16777216 * (c3 + c4 + c5 + c6) + 65536 * (c2 + c3 + c4 + c5) + 256 * (c1 + c2 + c3 + c4) + (c0 + c1 + c2 + c3)) := by omega
    rw [this, Nat.mul_add_div (by omega), Nat.div_eq_of_lt (by omega), Nat.add_zero]
  rw [a1, a2]
  have : y + t1 + (t2 + t3) + (t4 + t5 + t6 + t7) = 128 * (2 * (t1 + t2 + t3 + t4 + t5 + t6 + t7)) + (c0 + c1 + c2 + c3 + c4 + c5 + c6 + c7) := by omega
  rw [this, Nat.mul_add_mod, Nat.mod_eq_of_lt (by omega)]
  omega

/-- What 'OnesCount64' reckons, a step at a time. -/
structure Pops (x a1 b1 a2 b2 y3 : Nat) : Prop where
  h1 : x / 2 &&& 6148914691236517205 = a1
  h2 : x &&& 6148914691236517205 = b1
  s1 : a1 + b1 < 18446744073709551616
  h3 : (a1 + b1) / 4 &&& 3689348814741910323 = a2
  h4 : (a1 + b1) &&& 3689348814741910323 = b2
  s2 : a2 + b2 < 5764607523034234880
  h5 : ((a2 + b2) / 16 + (a2 + b2)) &&& 1085102592571150095 = y3
  s3 : y3 < 648518346341351424
  fin : (((y3 + y3 / 256) + (y3 + y3 / 256) / 65536) + ((y3 + y3 / 256) + (y3 + y3 / 256) / 65536) / 4294967296) % 128 = pop 64 x

theorem pops (x : Nat) (hx : x < 18446744073709551616) : ∃ a1 b1 a2 b2 y3, Pops x a1 b1 a2 b2 y3 := by
  have m1 : dmask (2 ^ 1) 32 = 6148914691236517205 := by decide
  have m2 : dmask (2 ^ 2) 16 = 3689348814741910323 := by decide
  have m4 : dmask 16 8 = 1085102592571150095 := by decide
  have g0 : Digs 2 1 (32 + 32) x := digs_two 64 x (by simpa using hx)
  have g1 := digs_dsum (B := 2) (by omega) (by omega) 32 x g0
  have g2 := digs_dsum (B := 4) (k := 2) (by omega) (by omega) 16 _ g1
  have g3 := digs_dsum (B := 16) (k := 4) (by omega) (by omega) 8 _ g2
  have p1 := psum_dsum (B := 2) (by omega) 32 x
  have p2 := psum_dsum (B := 4) (by omega) 16 (dsum 2 32 x)
  have p3 := psum_dsum (B := 16) (by omega) 8 (dsum 4 16 (dsum 2 32 x))
  have s1 := dsum_and 1 32 x
  have s2 := dsum_and 2 16 (dsum 2 32 x)
  have s3 := nib_step 8 (dsum 4 16 (dsum 2 32 x)) g2
  rw [m1] at s1
  rw [m2] at s2
  rw [m4] at s3
  have t1 := digs_top 31 _ g1
  have t2 := digs_top 15 _ g2
  have t3 := digs_top 7 _ g3
  have f := fold8 _ g3
  rw [p3] at f
  have p2' : psum 16 (8 + 8) (dsum 4 16 (dsum 2 32 x)) = psum 4 (16 + 16) (dsum 2 32 x) := p2
  have p1' : psum 4 (16 + 16) (dsum 2 32 x) = psum 2 (32 + 32) x := p1
  rw [p2', p1', ← pop_psum] at f
  have s1' : (x / 2 &&& 6148914691236517205) + (x &&& 6148914691236517205) = dsum 2 32 x := s1
  have s2' : (dsum 2 32 x / 4 &&& 3689348814741910323) + (dsum 2 32 x &&& 3689348814741910323) = dsum 4 16 (dsum 2 32 x) := s2
  generalize dsum 2 32 x = y1 at *
  generalize dsum 4 16 y1 = y2 at *
  generalize dsum 16 8 y2 = y3 at *
  have e1 : (2 * 2 : Nat) ^ 31 = 4611686018427387904 := by decide
  have e2 : (4 * 4 : Nat) ^ 15 = 1152921504606846976 := by decide
  have e3 : (16 * 16 : Nat) ^ 7 = 72057594037927936 := by decide
  rw [e1] at t1
  rw [e2] at t2
  rw [e3] at t3
  refine ⟨x / 2 &&& 6148914691236517205, x &&& 6148914691236517205, y1 / 4 &&& 3689348814741910323, y1 &&& 3689348814741910323, y3, rfl, rfl, by rw [s1']; omega, by rw [s1'], by rw [s1'], by rw [s2']; omega, by rw [s2']; exact s3, by omega, f⟩

end Go.Proofs.Ybulkojq
