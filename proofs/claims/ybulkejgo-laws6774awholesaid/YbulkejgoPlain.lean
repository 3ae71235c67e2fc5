/-
  THE PLAIN LAW for 'LawS6774AWhole': no Go in sight. A list of bytes; 'val': the number that it writes in decimal, exact; 'digs': each byte is a digit.
-/
import Derived.RowKit
namespace Go.Proofs.Ybulkejgo.Plain
open Go.RowKit (wrap64)

/-- A byte's digit, exact (negative or above nine where the byte is no digit). -/
def dg (c : UInt8) : Int := (c.toNat : Int) - 48

/-- The byte is an ASCII digit. -/
def isD (c : UInt8) : Bool := decide (48 ≤ c.toNat) && decide (c.toNat ≤ 57)

def digs (l : List UInt8) : Bool := l.all isD

/-- The number that the bytes write, the first the heaviest. -/
def val : List UInt8 → Int
  | [] => 0
  | c :: l => dg c * 10 ^ l.length + val l

theorem val_append : ∀ (l m : List UInt8), val (l ++ m) = val l * 10 ^ m.length + val m
  | [], m => by simp [val]
  | c :: l, m => by
    rw [List.cons_append, val, val, val_append l m, List.length_append, Int.pow_add, Int.add_mul, Int.mul_assoc, Int.add_assoc]

theorem val_snoc (l : List UInt8) (c : UInt8) : val (l ++ [c]) = val l * 10 + dg c := by
  rw [val_append]; simp [val]

/-- A wrap inside is idle: a sum. -/
theorem wrap_add (a b : Int) : wrap64 (wrap64 a + b) = wrap64 (a + b) := by
  unfold wrap64; omega

theorem wrap_add2 (a b : Int) : wrap64 (a + wrap64 b) = wrap64 (a + b) := by
  unfold wrap64; omega

/-- A number and its wrap differ by a multiple of 2^64. -/
theorem wrap_dist (a : Int) : ∃ t : Int, wrap64 a = a + 18446744073709551616 * t := by
  refine ⟨-((a + 9223372036854775808) / 18446744073709551616), ?_⟩
  unfold wrap64; omega

theorem wrap_shift (a t : Int) : wrap64 (a + 18446744073709551616 * t) = wrap64 a := by
  unfold wrap64; omega

theorem wrap_mul (a b : Int) : wrap64 (wrap64 a * b) = wrap64 (a * b) := by
  obtain ⟨t, ht⟩ := wrap_dist a
  rw [ht, Int.add_mul, Int.mul_assoc, wrap_shift]

theorem wrap_mul2 (a b : Int) : wrap64 (a * wrap64 b) = wrap64 (a * b) := by
  rw [Int.mul_comm, wrap_mul, Int.mul_comm]

theorem wrap_ten (a b : Int) : wrap64 (wrap64 a * 10 + b) = wrap64 (a * 10 + b) := by unfold wrap64; omega

/-- One round of 'digits': 'n = n*10 + d'. -/
theorem horner (l : List UInt8) (c : UInt8) : wrap64 (wrap64 (wrap64 (val l) * 10) + dg c) = wrap64 (val (l ++ [c])) := by
  rw [wrap_add, wrap_ten, val_snoc]

/-- One round of the law: 'want += d * p'. -/
theorem places (l : List UInt8) (c : UInt8) : wrap64 (wrap64 (val l) + wrap64 (dg c * wrap64 (10 ^ l.length))) = wrap64 (val (c :: l)) := by
  rw [wrap_add, wrap_mul2, wrap_add2, val, Int.add_comm]

/-- One round of the law: 'p *= 10'. -/
theorem power (n : Nat) : wrap64 (wrap64 (10 ^ n) * 10) = wrap64 (10 ^ (n + 1)) := by
  rw [wrap_mul, Int.pow_succ]

/-- The law's 'want' and 'p', behind names that the walk does not open. -/
def wv (l : List UInt8) : Int := wrap64 (val l)
def pw (n : Nat) : Int := wrap64 (10 ^ n)

theorem wv_nil : wv [] = 0 := by unfold wv val wrap64; omega
theorem pw_zero : pw 0 = 1 := by unfold pw wrap64; omega
theorem wv_cons (l : List UInt8) (c : UInt8) : wrap64 (wv l + wrap64 (dg c * pw l.length)) = wv (c :: l) := places l c
theorem pw_succ (n : Nat) : wrap64 (pw n * 10) = pw (n + 1) := power n

/-- What 'digits' gives where the length lies inside. -/
def num (l : List UInt8) : Int := if digs l = true then wrap64 (val l) else 0

theorem num_yes {l : List UInt8} (h : digs l = true) : num l = wrap64 (val l) := if_pos h

theorem num_no {l : List UInt8} (h : digs l = false) : num l = 0 := if_neg (by simp [h])

theorem digs_snoc (l : List UInt8) (c : UInt8) : digs (l ++ [c]) = (digs l && isD c) := by
  simp [digs]

end Go.Proofs.Ybulkejgo.Plain
