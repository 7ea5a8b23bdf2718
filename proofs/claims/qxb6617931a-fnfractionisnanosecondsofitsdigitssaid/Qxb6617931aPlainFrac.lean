/- The plain part of FnFractionIsNanosecondsOfItsDigits (seat b6617931a). No Go in sight. -/
import Derived.Test.Qxb6617931aPlain
namespace Go.Proofs.Qxb6617931a.Plain
open Go.RowKit (wrap64)

/-- With how many digits does the row of bytes open? -/
def lead : List UInt8 → Nat
  | [] => 0
  | c :: l => if isD (c.toNat : Int) = true then lead l + 1 else 0
theorem lead_le (l : List UInt8) : lead l ≤ l.length := by
  induction l with
  | nil => simp [lead]
  | cons c l ih => simp only [lead, List.length_cons]; split <;> omega
theorem lead_eq (l : List UInt8) (j : Nat) (hj : j ≤ l.length) (hall : allD (l.take j) = true) (hend : ∀ h : j < l.length, isD (l[j].toNat : Int) = false) : lead l = j := by
  induction l generalizing j with
  | nil => simp at hj; subst hj; rfl
  | cons c l ih =>
    cases j with
    | zero =>
      have := hend (by simp)
      simp at this
      simp [lead, this]
    | succ j =>
      simp [allD] at hall hj
      have hc : isD (c.toNat : Int) = true := hall.1
      have := ih j hj (by simpa [allD] using hall.2) (fun h => hend (Nat.succ_lt_succ h))
      simp [lead, hc, this]

/-- The digit's value behind the dot, at place i. -/
def dig (rest : ByteArray) (i : Nat) : Int := if h : 1 + i < rest.size then ((rest[1 + i].toNat : Int) - 48) else 0
/-- What 'fraction' has gathered after i rounds, k digits. -/
def nsTo (rest : ByteArray) (k : Nat) : Nat → Int
  | 0 => 0
  | i + 1 => nsTo rest k i * 10 + (if i < k then dig rest i else 0)
/-- The first k bytes behind the dot are digits. -/
def Digs (rest : ByteArray) (k : Nat) : Prop := ∀ i, i < k → 0 ≤ dig rest i ∧ dig rest i ≤ 9
theorem nsTo_rng (rest : ByteArray) (k : Nat) (h : Digs rest k) (i : Nat) : 0 ≤ nsTo rest k i ∧ nsTo rest k i + 1 ≤ 10 ^ i := by
  induction i with
  | zero => simp [nsTo]
  | succ i ih =>
    simp only [nsTo]
    rw [Int.pow_succ]
    split
    · rename_i hi
      have := h i hi
      omega
    · omega
theorem pow_le8 (i : Nat) (hi : i ≤ 8) : (10 : Int) ^ i ≤ 100000000 := by
  have : i = 0 ∨ i = 1 ∨ i = 2 ∨ i = 3 ∨ i = 4 ∨ i = 5 ∨ i = 6 ∨ i = 7 ∨ i = 8 := by omega
  rcases this with rfl | rfl | rfl | rfl | rfl | rfl | rfl | rfl | rfl <;> decide
/-- The weight of place i. -/
def pl (i : Nat) : Int := 100000000 / 10 ^ i
theorem pl_step (i : Nat) : pl i / 10 = pl (i + 1) := by
  unfold pl
  rw [Int.pow_succ, Int.ediv_ediv_of_nonneg (Int.pow_nonneg (by decide))]
theorem pl_rng (i : Nat) : 0 ≤ pl i ∧ pl i ≤ 100000000 := by
  induction i with
  | zero => decide
  | succ i ih => rw [← pl_step]; omega
theorem pl_pow (i : Nat) (hi : i ≤ 8) : pl i = 10 ^ (8 - i) := by
  have : i = 0 ∨ i = 1 ∨ i = 2 ∨ i = 3 ∨ i = 4 ∨ i = 5 ∨ i = 6 ∨ i = 7 ∨ i = 8 := by omega
  rcases this with rfl | rfl | rfl | rfl | rfl | rfl | rfl | rfl | rfl <;> decide
/-- One round of the law's own sum. -/
theorem want_step (rest : ByteArray) (k i : Nat) (hk : i < k) (hi : i ≤ 8) : nsTo rest k i * 10 ^ (9 - i) + dig rest i * pl i = nsTo rest k (i + 1) * 10 ^ (9 - (i + 1)) := by
  rw [pl_pow i hi, show 9 - (i + 1) = 8 - i by omega, show 9 - i = (8 - i) + 1 by omega, Int.pow_succ]
  simp only [nsTo, hk, if_true]
  rw [Int.add_mul, Int.mul_assoc, Int.mul_comm 10]
theorem want_rng (rest : ByteArray) (k : Nat) (h : Digs rest k) (i : Nat) (hi : i ≤ 9) : 0 ≤ nsTo rest k i * 10 ^ (9 - i) ∧ nsTo rest k i * 10 ^ (9 - i) ≤ 999999999 := by
  have hr := nsTo_rng rest k h i
  have hp : (0 : Int) < 10 ^ (9 - i) := Int.pow_pos (by decide)
  have he : (10 : Int) ^ i * 10 ^ (9 - i) = 1000000000 := by
    rw [← Int.pow_add, show i + (9 - i) = 9 by omega]; decide
  have h1 : (nsTo rest k i + 1) * 10 ^ (9 - i) ≤ 10 ^ i * 10 ^ (9 - i) := Int.mul_le_mul_of_nonneg_right hr.2 (by omega)
  rw [he, Int.add_mul] at h1
  exact ⟨Int.mul_nonneg hr.1 (by omega), by omega⟩
theorem want_wrap (rest : ByteArray) (k i : Nat) (h : Digs rest k) (hk : i < k) (hi : i ≤ 8) :
    wrap64 (nsTo rest k i * 10 ^ (9 - i) + wrap64 (dig rest i * pl i)) = nsTo rest k (i + 1) * 10 ^ (9 - (i + 1)) := by
  have e := want_step rest k i hk hi
  have r := want_rng rest k h (i + 1) (by omega)
  rw [← e] at r ⊢
  have hd : 0 ≤ dig rest i * pl i := Int.mul_nonneg (h i hk).1 (pl_rng i).1
  have r0 := want_rng rest k h i (by omega)
  generalize dig rest i * pl i = x at *
  generalize nsTo rest k i * 10 ^ (9 - i) = y at *
  unfold wrap64
  omega
/-- Behind the last digit only zeros are gathered. -/
theorem ns_end (rest : ByteArray) (k i : Nat) (hk : k ≤ i) (hi : i ≤ 9) : nsTo rest k i * 10 ^ (9 - i) = nsTo rest k k * 10 ^ (9 - k) := by
  induction i with
  | zero => have : k = 0 := by omega
            subst this; rfl
  | succ i ih =>
    by_cases h : k = i + 1
    · subst h; rfl
    · rw [← ih (by omega) (by omega)]
      have hlt : ¬ i < k := by omega
      simp only [nsTo, hlt, if_false, Int.add_zero]
      rw [show 9 - i = (9 - (i + 1)) + 1 by omega, Int.pow_succ, Int.mul_assoc, Int.mul_comm 10]
theorem want_done (rest : ByteArray) (k i : Nat) (hi : i ≤ 9) (hk : i ≤ k) (h : i = k ∨ i = 9) : nsTo rest k i * 10 ^ (9 - i) = nsTo rest k 9 := by
  rcases h with rfl | rfl
  · have := ns_end rest i 9 (by omega) (by omega)
    rw [← this]; simp
  · simp
end Go.Proofs.Qxb6617931a.Plain
