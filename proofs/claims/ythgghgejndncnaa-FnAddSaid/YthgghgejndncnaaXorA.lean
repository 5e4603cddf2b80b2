/- xor of numbers of two bytes; a message's attribute read where the receiver is younger. -/
import Derived.Test.YthgghgejndncnaaXor
namespace Go.Proofs.Ythgghgejndncnaa
open Go.RowKit
set_option linter.unusedSimpArgs false
set_option linter.unusedVariables false

theorem xor_two (a b c d : Nat) (hb : b < 256) (hd : d < 256) : (a * 256 + b) ^^^ (c * 256 + d) = (a ^^^ c) * 256 + (b ^^^ d) := by
  have hx : b ^^^ d < 2 ^ 8 := Nat.xor_lt_two_pow (by omega) (by omega)
  apply Nat.eq_of_testBit_eq
  intro j
  rw [Nat.testBit_xor, Nat.mul_comm a, Nat.mul_comm c, Nat.mul_comm (a ^^^ c)]
  rw [show (256 : Nat) = 2 ^ 8 from rfl, Nat.testBit_two_pow_mul_add a (by omega) j, Nat.testBit_two_pow_mul_add c (by omega) j, Nat.testBit_two_pow_mul_add (a ^^^ c) hx j]
  split <;> simp [Nat.testBit_xor]

theorem i64_xor_nat (a b : Nat) (ha : a < 65536) (hb : b < 65536) : bits .xor .i64 (a : Int) (b : Int) = ((a ^^^ b : Nat) : Int) := by
  have hx : a ^^^ b < 2 ^ 16 := Nat.xor_lt_two_pow (by omega) (by omega)
  show IntKind.i64.wrap ((BitVec.ofInt 64 (a : Int) ^^^ BitVec.ofInt 64 (b : Int)).toNat : Int) = _
  have ea : (BitVec.ofInt 64 (a : Int)).toNat = a := by simp [BitVec.toNat_ofInt]; omega
  have eb : (BitVec.ofInt 64 (b : Int)).toNat = b := by simp [BitVec.toNat_ofInt]; omega
  rw [BitVec.toNat_xor, ea, eb]
  exact wraps_i64 _ (by omega) (by omega)

theorem port_back (P : Int) (hP : 0 ≤ P ∧ P ≤ 65535) : bits .xor .i64 (x8 (P / 256 % 256) 33 * 256 + x8 (P % 256) 18) 8466 = P := by
  obtain ⟨p, rfl⟩ := Int.eq_ofNat_of_zero_le hP.1
  have h1 : x8 ((p : Int) / 256 % 256) 33 = ((p / 256 % 256 ^^^ 33 : Nat) : Int) := by
    rw [x8_nat _ _ (by omega) (by omega)]
    congr 2
  have h2 : x8 ((p : Int) % 256) 18 = ((p % 256 ^^^ 18 : Nat) : Int) := by
    rw [x8_nat _ _ (by omega) (by omega)]
    congr 2
  have hA : p / 256 % 256 ^^^ 33 < 2 ^ 8 := Nat.xor_lt_two_pow (by omega) (by omega)
  have hB : p % 256 ^^^ 18 < 2 ^ 8 := Nat.xor_lt_two_pow (by omega) (by omega)
  rw [h1, h2]
  have e : (((p / 256 % 256 ^^^ 33 : Nat) : Int) * 256 + ((p % 256 ^^^ 18 : Nat) : Int)) = (((p / 256 % 256 ^^^ 33) * 256 + (p % 256 ^^^ 18) : Nat) : Int) := by omega
  rw [e, show (8466 : Int) = ((33 * 256 + 18 : Nat) : Int) from rfl, i64_xor_nat _ _ (by omega) (by omega), xor_two _ _ _ _ (by omega) (by omega), Nat.xor_assoc, Nat.xor_self, Nat.xor_zero, Nat.xor_assoc, Nat.xor_self, Nat.xor_zero]
  omega
end Go.Proofs.Ythgghgejndncnaa
