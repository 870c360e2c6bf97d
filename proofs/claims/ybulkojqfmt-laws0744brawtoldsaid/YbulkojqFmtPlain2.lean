import Derived.Test.YbulkojqFmtPlain
namespace Go.Proofs.YbulkojqFmt
open Go

/-- The law's own decoder: i bytes are read, each with the bit 128; 'acc' is what their seven bits spell. -/
def decFrom (i acc : Nat) : List UInt8 → Option (Nat × Nat)
  | [] => none
  | b :: r =>
    if i = 10 then none
    else if b.toNat < 128 then
      if i = 9 ∧ 1 < b.toNat then none
      else if 0 < i ∧ b.toNat = 0 then none
      else some (acc + b.toNat * 2 ^ (7 * i), i + 1)
    else decFrom (i + 1) (acc + b.toNat % 128 * 2 ^ (7 * i)) r

theorem decFrom_ten (a a' : Nat) (r r' : List UInt8) : decFrom 10 a r = decFrom 10 a' r' := by
  cases r <;> cases r' <;> simp [decFrom]

theorem uvarintFrom_gt : ∀ (l : List UInt8) (i acc : Nat), (Lib.uvarintFrom i acc l).2 ≤ 0 ∨ (i : Int) < (Lib.uvarintFrom i acc l).2
  | [], i, acc => by simp [Lib.uvarintFrom]
  | b :: r, i, acc => by
    simp only [Lib.uvarintFrom]
    split
    · left; simp; omega
    · split
      · split
        · left; simp; omega
        · right; simp; omega
      · have := uvarintFrom_gt r (i + 1) (acc + b.toNat % 128 * 2 ^ (7 * i))
        omega

/-- What a Reader makes of what 'binary.Uvarint' has handed back, i bytes behind l's front. -/
def fin (l : List UInt8) (i : Nat) (R : Nat × Int) : Option (Nat × Nat) :=
  if R.2 ≤ 0 then none
  else if 1 < R.2 ∧ (l.getD (R.2.toNat - 1 - i) 1).toNat = 0 then none
  else some (R.1, R.2.toNat)

theorem decFrom_eq : ∀ (l : List UInt8) (i acc : Nat), decFrom i acc l = fin l i (Lib.uvarintFrom i acc l)
  | [], i, acc => by simp [decFrom, Lib.uvarintFrom, fin]
  | b :: r, i, acc => by
    by_cases h10 : i = 10
    · subst h10
      simp [decFrom, Lib.uvarintFrom, fin]
    · by_cases hb : b.toNat < 128
      · by_cases h9 : i = 9 ∧ 1 < b.toNat
        · obtain ⟨rfl, h9⟩ := h9
          simp [decFrom, Lib.uvarintFrom, fin, hb, h9]
        · have eR : Lib.uvarintFrom i acc (b :: r) = (acc + b.toNat * 2 ^ (7 * i), (i : Int) + 1) := by
            simp only [Lib.uvarintFrom]
            rw [if_neg h10, if_pos hb, if_neg h9]
          have eD : decFrom i acc (b :: r) = if 0 < i ∧ b.toNat = 0 then none else some (acc + b.toNat * 2 ^ (7 * i), i + 1) := by
            simp only [decFrom]
            rw [if_neg h10, if_pos hb, if_neg h9]
          rw [eR, eD]
          have e1 : ((i : Int) + 1).toNat = i + 1 := by omega
          have e2 : i + 1 - 1 - i = 0 := by omega
          simp only [fin, e1, e2, List.getD_cons_zero]
          rw [if_neg (show ¬ ((i : Int) + 1 ≤ 0) by omega)]
          by_cases hz : 0 < i ∧ b.toNat = 0
          · rw [if_pos hz, if_pos ⟨by omega, hz.2⟩]
          · rw [if_neg hz, if_neg (fun h => hz ⟨by omega, h.2⟩)]
      · have eR : Lib.uvarintFrom i acc (b :: r) = Lib.uvarintFrom (i + 1) (acc + b.toNat % 128 * 2 ^ (7 * i)) r := by
          show (if i = 10 then _ else if b.toNat < 128 then _ else Lib.uvarintFrom (i + 1) (acc + b.toNat % 128 * 2 ^ (7 * i)) r) = _
          rw [if_neg h10, if_neg hb]
        have eD : decFrom i acc (b :: r) = decFrom (i + 1) (acc + b.toNat % 128 * 2 ^ (7 * i)) r := by
          show (if i = 10 then _ else if b.toNat < 128 then _ else decFrom (i + 1) (acc + b.toNat % 128 * 2 ^ (7 * i)) r) = _
          rw [if_neg h10, if_neg hb]
        rw [eR, eD, decFrom_eq r (i + 1)]
        have hgt := uvarintFrom_gt r (i + 1) (acc + b.toNat % 128 * 2 ^ (7 * i))
        generalize Lib.uvarintFrom (i + 1) (acc + b.toNat % 128 * 2 ^ (7 * i)) r = R at hgt
        unfold fin
        by_cases h0 : R.2 ≤ 0
        · rw [if_pos h0, if_pos h0]
        · rw [if_neg h0, if_neg h0]
          have e : R.2.toNat - 1 - i = (R.2.toNat - 1 - (i + 1)) + 1 := by omega
          rw [e, List.getD_cons_succ]

theorem dec_eq (l : List UInt8) : decFrom 0 0 l = dec l := by
  rw [decFrom_eq]
  rfl
end Go.Proofs.YbulkojqFmt
