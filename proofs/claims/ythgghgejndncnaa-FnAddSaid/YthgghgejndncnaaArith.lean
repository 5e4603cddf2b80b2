/- PLAIN ARITHMETIC: bytes put together and taken apart. -/
import Derived.WalkKit
import Derived.Laws.BitsAllLaws
import Derived.Laws.DeepBits32
namespace Go.Proofs.Ythgghgejndncnaa
open Go.RowKit
set_option linter.unusedSimpArgs false
set_option linter.unusedVariables false

theorem wraps_u16 (n : Int) (h₀ : 0 ≤ n) (h₁ : n < 2 ^ 16) : IntKind.u16.wrap n = n := by rw [IntKind.wrap_u16]; omega
theorem wraps_u32 (n : Int) (h₀ : 0 ≤ n) (h₁ : n < 2 ^ 32) : IntKind.u32.wrap n = n := by rw [IntKind.wrap_u32]; omega
theorem wraps_i64 (n : Int) (h₀ : 0 ≤ n) (h₁ : n < 2 ^ 63) : IntKind.i64.wrap n = n := by rw [IntKind.wrap_i64]; omega

/-- the low part first -/
theorem bits_join' (k : IntKind) (j : Nat) (hj : j ≤ k.bits) (hk : ∀ n : Int, 0 ≤ n → n < 2 ^ j → k.wrap n = n) (i : Nat)
    (x y : Int) (hx₀ : 0 ≤ x) (hx : x % 2 ^ i = 0) (hx₁ : x < 2 ^ j) (hy₀ : 0 ≤ y) (hy : y < 2 ^ i) (hy₁ : y < 2 ^ j) : bits .or k y x = x + y := by
  rw [← bits_join k j hj hk i x y hx₀ hx hx₁ hy₀ hy hy₁]
  obtain ⟨a, rfl⟩ := Int.eq_ofNat_of_zero_le hx₀
  obtain ⟨b, rfl⟩ := Int.eq_ofNat_of_zero_le hy₀
  have ha : a < 2 ^ j := by exact_mod_cast hx₁
  have hb : b < 2 ^ j := by exact_mod_cast hy₁
  rw [(bits_nat k j hj hk a b ha hb).2, (bits_nat k j hj hk b a hb ha).2, Nat.or_comm]

theorem or16 (x y : Int) (hx : 0 ≤ x ∧ x ≤ 255) (hy : 0 ≤ y ∧ y ≤ 255) : bits .or .u16 y (x * 256) = x * 256 + y :=
  bits_join' .u16 16 (by decide) wraps_u16 8 (x * 256) y (by omega) (by omega) (by omega) (by omega) (by omega) (by omega)

theorem or32 (a b c d : Int) (ha : 0 ≤ a ∧ a ≤ 255) (hb : 0 ≤ b ∧ b ≤ 255) (hc : 0 ≤ c ∧ c ≤ 255) (hd : 0 ≤ d ∧ d ≤ 255) :
    bits .or .u32 (bits .or .u32 (bits .or .u32 d (c * 256)) (b * 65536)) (a * 16777216) = a * 16777216 + b * 65536 + c * 256 + d := by
  rw [bits_join' .u32 32 (by decide) wraps_u32 8 (c * 256) d (by omega) (by omega) (by omega) (by omega) (by omega) (by omega),
    bits_join' .u32 32 (by decide) wraps_u32 16 (b * 65536) (c * 256 + d) (by omega) (by omega) (by omega) (by omega) (by omega) (by omega),
    bits_join' .u32 32 (by decide) wraps_u32 24 (a * 16777216) (b * 65536 + (c * 256 + d)) (by omega) (by omega) (by omega) (by omega) (by omega) (by omega)]
  omega

theorem or_i64 (x y : Int) (hx : 0 ≤ x ∧ x ≤ 255) (hy : 0 ≤ y ∧ y ≤ 255) : bits .or .i64 (x * 256) y = x * 256 + y :=
  bits_join .i64 63 (by decide) wraps_i64 8 (x * 256) y (by omega) (by omega) (by omega) (by omega) (by omega) (by omega)

end Go.Proofs.Ythgghgejndncnaa
