import Derived.WalkKit
namespace Go.Proofs.Ybulkdqec
open Go.RowKit

/-! ### plain mathematics: a run of digits, its value -/
def dig (c : UInt8) : Int := (c.toNat : Int) - 48
def hor (l : List UInt8) : Int := l.foldl (fun v c => v * 10 + dig c) 0

theorem foldl_hor (l : List UInt8) : ∀ a : Int, l.foldl (fun v c => v * 10 + dig c) a = a * 10 ^ l.length + hor l := by
  induction l with
  | nil => intro a; simp [hor]
  | cons c l ih =>
    intro a
    simp only [List.foldl_cons, List.length_cons, hor]
    rw [ih, ih (0 * 10 + dig c)]
    rw [Int.pow_succ, Int.add_mul, Int.mul_assoc, Int.mul_comm 10]
    simp only [Int.zero_mul, Int.zero_add]
    omega
theorem hor_snoc (l : List UInt8) (c : UInt8) : hor (l ++ [c]) = hor l * 10 + dig c := by simp [hor]
theorem hor_cons (l : List UInt8) (c : UInt8) : hor (c :: l) = dig c * 10 ^ l.length + hor l := by
  show List.foldl _ _ _ = _
  simp only [List.foldl_cons, Int.zero_mul, Int.zero_add]
  rw [foldl_hor]

theorem wrap64_shift (x y : Int) : wrap64 (x + 18446744073709551616 * y) = wrap64 x := by unfold wrap64; omega
theorem wrap64_ex (a : Int) : ∃ q : Int, wrap64 a = a + 18446744073709551616 * q := ⟨-((a + 9223372036854775808) / 18446744073709551616), by unfold wrap64; omega⟩
theorem wrap64_mul_left (a b : Int) : wrap64 (wrap64 a * b) = wrap64 (a * b) := by
  obtain ⟨q, hq⟩ := wrap64_ex a
  rw [hq, Int.add_mul, Int.mul_assoc, wrap64_shift]
theorem wrap64_mul_right (a b : Int) : wrap64 (a * wrap64 b) = wrap64 (a * b) := by rw [Int.mul_comm, wrap64_mul_left, Int.mul_comm]
theorem wrap64_add_left (a b : Int) : wrap64 (wrap64 a + b) = wrap64 (a + b) := by unfold wrap64; omega
theorem wrap64_add_right (a b : Int) : wrap64 (a + wrap64 b) = wrap64 (a + b) := by unfold wrap64; omega
theorem wrap64_wrap64 (a : Int) : wrap64 (wrap64 a) = wrap64 a := by unfold wrap64; omega

def val (l : List UInt8) : Int := wrap64 (hor l)
def pow (n : Nat) : Int := wrap64 (10 ^ n)

theorem pow_succ (n : Nat) : wrap64 (pow n * 10) = pow (n + 1) := by
  unfold pow; rw [wrap64_mul_left, Int.pow_succ]
/-- the place-value loop's round -/
theorem val_cons (l : List UInt8) (c : UInt8) : wrap64 (val l + wrap64 (dig c * pow l.length)) = val (c :: l) := by
  unfold val pow
  rw [wrap64_mul_right, wrap64_add_left, wrap64_add_right, hor_cons, Int.add_comm]
/-- Horner's round -/
theorem val_snoc (l : List UInt8) (c : UInt8) : wrap64 (wrap64 (val l * 10) + dig c) = val (l ++ [c]) := by
  unfold val
  rw [wrap64_mul_left, wrap64_add_left, hor_snoc]
theorem val_nil : val [] = 0 := by simp [val, hor, wrap64]
theorem pow_zero : pow 0 = 1 := by simp [pow, wrap64]
theorem drop_cons (s : ByteArray) (k : Nat) (h : k < s.size) : s.data.toList.drop k = s[k] :: s.data.toList.drop (k + 1) := by
  rw [List.drop_eq_getElem_cons (by simpa using h)]; rfl
theorem take_snoc (s : ByteArray) (k : Nat) (h : k < s.size) : s.data.toList.take (k + 1) = s.data.toList.take k ++ [s[k]] := by
  rw [List.take_succ_eq_append_getElem (by simpa using h)]; rfl
end Go.Proofs.Ybulkdqec
