import Derived.Test.YbulkojqHang
import Derived.Laws.BitsAllLaws
set_option linter.unusedVariables false
set_option linter.unusedSimpArgs false
namespace Go.Proofs.Ybulkojq
open Go.RowKit

theorem two_lt {k : Nat} (h : k < 64) : 2 ^ k < 18446744073709551616 := by
  have h1 : (2 : Nat) ^ k ≤ 2 ^ 63 := Nat.pow_le_pow_right (by omega) (by omega)
  have h2 : (2 : Nat) ^ 63 = 9223372036854775808 := by decide
  omega

theorem slot_shift (n : Nat) (hn : n < 18446744073709551616) : Op.shift .shl .u64 1 .u64 (bits .and .u64 (n : Nat) 63) = pure (.int .u64 (2 ^ (n % 64) : Nat)) := by
  have e : bits .and .u64 (n : Nat) 63 = ((n % 64 : Nat) : Int) := by
    rw [← nat_mask6]
    exact u64_and_nat n 63 hn (by omega)
  rw [e, shift_shl_u64 _ _ _ (by omega) (by omega)]
  congr 2
  have h1 := two_lt (Nat.mod_lt n (show 64 > 0 by omega))
  rw [IntKind.wrap_u64, Int.toNat_natCast, Int.one_mul]
  have h2 : (2 : Int) ^ (n % 64) = ((2 ^ (n % 64) : Nat) : Int) := by simp
  rw [h2]
  generalize 2 ^ (n % 64) = Y at h1
  omega

theorem slot_or (ss : List Nat) (s : Nat) (ha : Asc 0 ss) (hs : s < 64) (hx : ∀ x ∈ ss, x < s) : bits .or .u64 (mask ss : Nat) (2 ^ s : Nat) = (mask (ss ++ [s]) : Nat) := by
  rw [u64_or_nat _ _ (mask_lt ha) (two_lt hs), mask_or ha hx]

theorem hang_all : ∀ (d h : Nat), h + d = 9 → HangAt h
  | 0, h, e => hang_step (by omega) (fun h8 => by omega) slot_shift slot_or
  | d + 1, h, e => hang_step (by omega) (fun _ => hang_all d (h + 1) (by omega)) slot_shift slot_or

theorem hang {h : Nat} (h9 : h ≤ 9) : HangAt h := hang_all (9 - h) h (by omega)

end Go.Proofs.Ybulkojq
