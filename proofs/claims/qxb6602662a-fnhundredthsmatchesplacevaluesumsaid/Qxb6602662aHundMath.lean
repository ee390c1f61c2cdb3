/- The two sums of digits: the plain side. -/
import Derived.Test.Qxb6602662aDigits
namespace Go.Proofs.Qxb6602662a
open Go.RowKit
set_option linter.unusedVariables false

/-- A byte's digit value, wrapping in a byte. -/
def dv (c : Nat) : Int := ((c : Int) - 48) % 256

theorem dv_range (c : Nat) : 0 ≤ dv c ∧ dv c ≤ 255 := by unfold dv; omega

/-- The first k digits, left to right. -/
def vd (a : ByteArray) : Nat → Int
  | 0 => 0
  | k + 1 => vd a k * 10 + dv (byteAt a k)

/-- The digit of the fraction's place k, nothing where there is none. -/
def fd (f : ByteArray) (k : Nat) : Int := if k < f.size then dv (byteAt f k) else 0

theorem fd_range (f : ByteArray) (k : Nat) : 0 ≤ fd f k ∧ fd f k ≤ 255 := by
  unfold fd
  split
  · exact dv_range _
  · omega

/-- The number in hundredths. -/
def hundN (a f : ByteArray) : Int := (vd a a.size * 10 + fd f 0) * 10 + fd f 1

/-- The last j digits by their place values. -/
def sd (a : ByteArray) (n : Nat) : Nat → Int
  | 0 => 0
  | j + 1 => sd a n j + dv (byteAt a (n - 1 - j)) * 10 ^ j

theorem vd_split (a : ByteArray) (n : Nat) : ∀ j, j ≤ n → vd a n = vd a (n - j) * 10 ^ j + sd a n j := by
  intro j
  induction j with
  | zero => intro _; simp [sd]
  | succ j ih =>
    intro h
    rw [ih (by omega)]
    obtain ⟨m, hm⟩ : ∃ m, n - j = m + 1 := ⟨n - j - 1, by omega⟩
    have e1 : n - (j + 1) = m := by omega
    have e2 : n - 1 - j = m := by omega
    rw [hm, e1]
    simp only [vd, sd]
    rw [e2, Int.add_mul, Int.pow_succ, Int.mul_assoc, Int.mul_comm 10 (10 ^ j)]
    omega

theorem vd_sd (a : ByteArray) (n : Nat) : vd a n = sd a n n := by
  have := vd_split a n n (Nat.le_refl _)
  simp [vd] at this
  exact this

/-- The model's sum. -/
def sumN (a f : ByteArray) (j : Nat) : Int := fd f 1 + fd f 0 * 10 + 100 * sd a a.size j

theorem sum_hund (a f : ByteArray) : sumN a f a.size = hundN a f := by
  unfold sumN hundN
  rw [vd_sd]
  omega

theorem wrap_step (x y : Int) : wrap64 (wrap64 (wrap64 x * 10) + y) = wrap64 (x * 10 + y) := by
  unfold wrap64; omega

theorem wrap_mul (x : Int) : wrap64 (wrap64 x * 10) = wrap64 (x * 10) := by
  unfold wrap64; omega

theorem wrap_add (x y : Int) : wrap64 (wrap64 x + y) = wrap64 (x + y) := by
  unfold wrap64; omega

theorem u64_add (Z d Q : Int) : IntKind.u64.wrap (Z % 18446744073709551616 + IntKind.u64.wrap (d * (Q % 18446744073709551616))) = (Z + d * Q) % 18446744073709551616 := by
  rw [IntKind.wrap_u64, IntKind.wrap_u64]
  rw [Int.mul_emod, Int.emod_emod, ← Int.mul_emod, ← Int.add_emod]

theorem u64_mul (Q : Int) : IntKind.u64.wrap (Q % 18446744073709551616 * 10) = (Q * 10) % 18446744073709551616 := by
  rw [IntKind.wrap_u64]; omega

theorem wrap_u64_of (Z : Int) : wrap64 (Z % 18446744073709551616) = wrap64 Z := by
  unfold wrap64; omega

theorem sumN_succ (a f : ByteArray) (j : Nat) : sumN a f (j + 1) = sumN a f j + dv (byteAt a (a.size - 1 - j)) * (100 * 10 ^ j) := by
  unfold sumN
  simp only [sd]
  rw [Int.mul_add, Int.mul_left_comm 100]
  omega

theorem sumN_small (a f : ByteArray) : sumN a f 0 = fd f 1 + fd f 0 * 10 ∧ 0 ≤ sumN a f 0 ∧ sumN a f 0 < 18446744073709551616 := by
  have h0 := fd_range f 0
  have h1 := fd_range f 1
  unfold sumN
  simp only [sd]
  omega

end Go.Proofs.Qxb6602662a
