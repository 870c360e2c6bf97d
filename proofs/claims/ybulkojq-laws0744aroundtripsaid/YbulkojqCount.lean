import Derived.Test.YbulkojqPop
import Derived.Test.YbulkojqWalks2
import Derived.Laws.Bits128
set_option linter.unusedVariables false
set_option linter.unusedSimpArgs false
namespace Go.Proofs.Ybulkojq
open Go.RowKit

set_option maxHeartbeats 400000 in
theorem count_raw (x a1 b1 a2 b2 y3 : Nat) (w : World) (hx : x < 18446744073709551616) (h1 : bits .and .u64 ((x : Int) / 2) 6148914691236517205 = (a1 : Int)) (h2 : bits .and .u64 (x : Int) 6148914691236517205 = (b1 : Int)) (s1 : (a1 : Int) + b1 < 18446744073709551616)
    (h3 : bits .and .u64 (((a1 : Int) + b1) / 4) 3689348814741910323 = (a2 : Int)) (h4 : bits .and .u64 ((a1 : Int) + b1) 3689348814741910323 = (b2 : Int)) (s2 : (a2 : Int) + b2 < 5764607523034234880)
    (h5 : bits .and .u64 (((a2 : Int) + b2) / 16 + ((a2 : Int) + b2)) 1085102592571150095 = (y3 : Int)) (s3 : (y3 : Int) < 648518346341351424)
    (fin : (((y3 + y3 / 256) + (y3 + y3 / 256) / 65536) + ((y3 + y3 / 256) + (y3 + y3 / 256) / 65536) / 4294967296) % 128 = pop 64 x) :
    Calls Yba.prog 12 #[.int .u64 (x : Int)] w fun e w' => e = .returned (.int .i64 (pop 64 x : Nat)) ∧ w' = w := by
  go_enter Yba.func12, Yba.ntmps12
  go_wp2
  go_ret
  refine ⟨?_, rfl⟩
  show Ending.returned (Value.int .i64 (bits .and .i64 _ 127)) = _
  rw [i64_and127, ← fin]
  congr 2

/-- 'math/bits.OnesCount64'. -/
theorem count_walk (x : Nat) (hx : x < 18446744073709551616) (w : World) : Calls Yba.prog 12 #[.int .u64 (x : Nat)] w fun e w' => e = .returned (.int .i64 (pop 64 x : Nat)) ∧ w' = w := by
  obtain ⟨a1, b1, a2, b2, y3, p⟩ := pops x hx
  have s1 := p.s1
  have s2 := p.s2
  have s3 := p.s3
  refine count_raw x a1 b1 a2 b2 y3 w hx ?_ ?_ (by omega) ?_ ?_ (by omega) ?_ (by omega) p.fin
  · rw [← p.h1]; exact u64_and_nat (x / 2) 6148914691236517205 (by omega) (by omega)
  · rw [← p.h2]; exact u64_and_nat x 6148914691236517205 hx (by omega)
  · rw [← p.h3]; exact u64_and_nat ((a1 + b1) / 4) 3689348814741910323 (by omega) (by omega)
  · rw [← p.h4]; exact u64_and_nat (a1 + b1) 3689348814741910323 (by omega) (by omega)
  · rw [← p.h5]; exact u64_and_nat ((a2 + b2) / 16 + (a2 + b2)) 1085102592571150095 (by omega) (by omega)
end Go.Proofs.Ybulkojq
