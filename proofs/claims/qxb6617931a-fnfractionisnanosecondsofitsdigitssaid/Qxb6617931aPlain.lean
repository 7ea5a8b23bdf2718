/- The plain part of seat b6617931a: decimal values over lists of bytes, and the wrap of int. No Go in sight. -/
import Derived.RowKit
namespace Go.Proofs.Qxb6617931a.Plain
open Go.RowKit (wrap64)

theorem w64_congr {a b : Int} (h : a % 18446744073709551616 = b % 18446744073709551616) : wrap64 a = wrap64 b := by
  unfold wrap64; omega
theorem w64_mod (a : Int) : wrap64 a % 18446744073709551616 = a % 18446744073709551616 := by
  unfold wrap64; omega
theorem w64_add (a b : Int) : wrap64 (wrap64 a + wrap64 b) = wrap64 (a + b) := by
  apply w64_congr; have := w64_mod a; have := w64_mod b; omega
theorem w64_add_l (a b : Int) : wrap64 (wrap64 a + b) = wrap64 (a + b) := by
  apply w64_congr; have := w64_mod a; omega
theorem w64_mul (a b : Int) : wrap64 (wrap64 a * wrap64 b) = wrap64 (a * b) := by
  apply w64_congr
  rw [Int.mul_emod, w64_mod a, w64_mod b, ← Int.mul_emod]
theorem w64_mul_l (a b : Int) : wrap64 (wrap64 a * b) = wrap64 (a * b) := by
  apply w64_congr
  rw [Int.mul_emod, w64_mod a, ← Int.mul_emod]
theorem w64_mul_r (a b : Int) : wrap64 (a * wrap64 b) = wrap64 (a * b) := by
  apply w64_congr
  rw [Int.mul_emod, w64_mod b, ← Int.mul_emod]
theorem w64_rng (a : Int) : -9223372036854775808 ≤ wrap64 a ∧ wrap64 a ≤ 9223372036854775807 := by
  unfold wrap64; omega

/-- A digit's value. -/
def dv (c : UInt8) : Int := (c.toNat : Int) - 48
/-- The decimal value of a row of bytes, unbounded. -/
def val (l : List UInt8) : Int := l.foldl (fun n c => n * 10 + dv c) 0
theorem val_nil : val [] = 0 := rfl
theorem val_snoc (l : List UInt8) (c : UInt8) : val (l ++ [c]) = val l * 10 + dv c := by
  unfold val; simp
theorem fold_from (m : List UInt8) (n : Int) : m.foldl (fun n c => n * 10 + dv c) n = n * 10 ^ m.length + val m := by
  induction m generalizing n with
  | nil => simp [val]
  | cons c t ih =>
    have h1 := ih (n * 10 + dv c)
    have h2 := ih (0 * 10 + dv c)
    unfold val
    rw [List.foldl_cons, List.foldl_cons, h1, h2, List.length_cons, Int.pow_succ, Int.add_mul, Int.mul_assoc, Int.mul_comm 10]
    simp
    omega
theorem val_append (l m : List UInt8) : val (l ++ m) = val l * 10 ^ m.length + val m := by
  show List.foldl _ _ _ = _
  rw [List.foldl_append, fold_from]; rfl
theorem val_cons (c : UInt8) (m : List UInt8) : val (c :: m) = dv c * 10 ^ m.length + val m := by
  have := val_append [c] m
  simpa [val] using this

/-- Is the byte a digit (over the walk's numbers)? -/
def isD (n : Int) : Bool := decide (48 ≤ n) && decide (n ≤ 57)
theorem isD_iff (n : Int) : isD n = true ↔ 48 ≤ n ∧ n ≤ 57 := by simp [isD]
theorem isD_no (n : Int) : isD n = false ↔ n < 48 ∨ 57 < n := by simp [isD]; omega
/-- Are all of them digits? -/
def allD (l : List UInt8) : Bool := l.all fun c => isD (c.toNat : Int)
theorem allD_snoc (l : List UInt8) (c : UInt8) : allD (l ++ [c]) = (allD l && isD (c.toNat : Int)) := by
  simp [allD]
theorem allD_mem {l : List UInt8} (h : allD l = true) (i : Nat) (hi : i < l.length) : 48 ≤ (l[i].toNat : Int) ∧ (l[i].toNat : Int) ≤ 57 := by
  have := (List.all_eq_true.1 h) l[i] (List.getElem_mem hi)
  exact (isD_iff _).1 this
theorem allD_take {l : List UInt8} (h : allD l = true) (i : Nat) : allD (l.take i) = true := by
  unfold allD at *
  rw [List.all_eq_true] at *
  exact fun x hx => h x (List.mem_of_mem_take hx)
theorem allD_append (l m : List UInt8) : allD (l ++ m) = (allD l && allD m) := by simp [allD]

theorem take_snoc (s : ByteArray) (k : Nat) (h : k < s.size) : s.data.toList.take (k + 1) = s.data.toList.take k ++ [s[k]] := by
  rw [List.take_succ_eq_append_getElem (by simpa using h)]; rfl

/-- One round of 'number'. -/
theorem num_step (l : List UInt8) (c : UInt8) : wrap64 (wrap64 (wrap64 (val l) * 10) + ((c.toNat : Int) - 48)) = wrap64 (val (l ++ [c])) := by
  rw [val_snoc, w64_add_l]
  apply w64_congr
  have h := w64_mod (val l)
  unfold dv
  omega
end Go.Proofs.Qxb6617931a.Plain
