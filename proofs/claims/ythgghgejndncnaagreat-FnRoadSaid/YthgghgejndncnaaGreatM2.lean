/- BYTES: reading and writing numbers of two and four bytes. -/
import Derived.Test.YthgghgejndncnaaGreatM1
import Derived.Deep.QuietTactic
import Derived.BigQuiet
import Derived.Laws.FloatArith
namespace Go.Proofs.YthgghgejndncnaaGreat
open Go.RowKit
set_option linter.unusedSimpArgs false
set_option linter.unusedVariables false

/-- 'beUint16(b)' (turn) -/
theorem tbe16_any (b o n c : Nat) (x y : Int) (w : World) (hn : 2 ≤ n) (hx : 0 ≤ x ∧ x ≤ 255) (hy : 0 ≤ y ∧ y ≤ 255)
    (h0 : w.cell? ⟨b, o, none⟩ = some (.int .u8 x)) (h1 : w.cell? ⟨b, o + 1, none⟩ = some (.int .u8 y)) :
    Calls Tryz.prog 60 #[.slice (some ⟨b, o, none⟩) n c] w fun e w' => e = .returned (.int .u16 (x * 256 + y)) ∧ ∃ k, w' = w.drewN k := by
  have l0 : (0 : Int) < n := by omega
  have l1 : (1 : Int) < n := by omega
  go_enter Tryz.func60, Tryz.ntmps60
  go_wp2
  go_quiet (fail)
  go_wp2
  go_ret
  exact ⟨ret_int (or16 x y hx hy), _, rfl⟩

/-- 'beUint16(b)' (stun) -/
theorem sbe16_any (b o n c : Nat) (x y : Int) (w : World) (hn : 2 ≤ n) (hx : 0 ≤ x ∧ x ≤ 255) (hy : 0 ≤ y ∧ y ≤ 255)
    (h0 : w.cell? ⟨b, o, none⟩ = some (.int .u8 x)) (h1 : w.cell? ⟨b, o + 1, none⟩ = some (.int .u8 y)) :
    Calls Tryz.prog 51 #[.slice (some ⟨b, o, none⟩) n c] w fun e w' => e = .returned (.int .u16 (x * 256 + y)) ∧ ∃ k, w' = w.drewN k := by
  have l0 : (0 : Int) < n := by omega
  have l1 : (1 : Int) < n := by omega
  go_enter Tryz.func51, Tryz.ntmps51
  go_wp2
  go_quiet (fail)
  go_wp2
  go_ret
  exact ⟨ret_int (or16 x y hx hy), _, rfl⟩

/-- 'beUint32(b)' (turn) -/
theorem tbe32_any (b o n c : Nat) (x0 x1 x2 x3 : Int) (w : World) (hn : 4 ≤ n) (r0 : 0 ≤ x0 ∧ x0 ≤ 255) (r1 : 0 ≤ x1 ∧ x1 ≤ 255) (r2 : 0 ≤ x2 ∧ x2 ≤ 255) (r3 : 0 ≤ x3 ∧ x3 ≤ 255)
    (h0 : w.cell? ⟨b, o, none⟩ = some (.int .u8 x0)) (h1 : w.cell? ⟨b, o + 1, none⟩ = some (.int .u8 x1)) (h2 : w.cell? ⟨b, o + 2, none⟩ = some (.int .u8 x2)) (h3 : w.cell? ⟨b, o + 3, none⟩ = some (.int .u8 x3)) :
    Calls Tryz.prog 61 #[.slice (some ⟨b, o, none⟩) n c] w fun e w' => e = .returned (.int .u32 (x0 * 16777216 + x1 * 65536 + x2 * 256 + x3)) ∧ ∃ k, w' = w.drewN k := by
  have l0 : (0 : Int) < n := by omega
  have l1 : (1 : Int) < n := by omega
  have l2 : (2 : Int) < n := by omega
  have l3 : (3 : Int) < n := by omega
  go_enter Tryz.func61, Tryz.ntmps61
  go_wp2
  go_quiet (fail)
  go_wp2
  go_ret
  exact ⟨ret_int (or32 x0 x1 x2 x3 r0 r1 r2 r3), _, rfl⟩

/-- 'beUint32(b)' (stun) -/
theorem sbe32_any (b o n c : Nat) (x0 x1 x2 x3 : Int) (w : World) (hn : 4 ≤ n) (r0 : 0 ≤ x0 ∧ x0 ≤ 255) (r1 : 0 ≤ x1 ∧ x1 ≤ 255) (r2 : 0 ≤ x2 ∧ x2 ≤ 255) (r3 : 0 ≤ x3 ∧ x3 ≤ 255)
    (h0 : w.cell? ⟨b, o, none⟩ = some (.int .u8 x0)) (h1 : w.cell? ⟨b, o + 1, none⟩ = some (.int .u8 x1)) (h2 : w.cell? ⟨b, o + 2, none⟩ = some (.int .u8 x2)) (h3 : w.cell? ⟨b, o + 3, none⟩ = some (.int .u8 x3)) :
    Calls Tryz.prog 52 #[.slice (some ⟨b, o, none⟩) n c] w fun e w' => e = .returned (.int .u32 (x0 * 16777216 + x1 * 65536 + x2 * 256 + x3)) ∧ ∃ k, w' = w.drewN k := by
  have l0 : (0 : Int) < n := by omega
  have l1 : (1 : Int) < n := by omega
  have l2 : (2 : Int) < n := by omega
  have l3 : (3 : Int) < n := by omega
  go_enter Tryz.func52, Tryz.ntmps52
  go_wp2
  go_quiet (fail)
  go_wp2
  go_ret
  exact ⟨ret_int (or32 x0 x1 x2 x3 r0 r1 r2 r3), _, rfl⟩

/-- 'bePutUint16(b, v)' (turn) -/
theorem tput16_any (b o n c : Nat) (v : Int) (u0 u1 : Value) (w : World) (hn : 2 ≤ n) (hv : 0 ≤ v ∧ v ≤ 65535)
    (h0 : w.cell? ⟨b, o, none⟩ = some u0) (h1 : w.cell? ⟨b, o + 1, none⟩ = some u1) (f0 : w.frozen? ⟨b, o, none⟩ = false) (f1 : w.frozen? ⟨b, o + 1, none⟩ = false) :
    Calls Tryz.prog 90 #[.slice (some ⟨b, o, none⟩) n c, .int .u16 v] w fun e w' => e = .returned (.tuple #[]) ∧ w' = (w.setCell ⟨b, o, none⟩ (.int .u8 (v / 256))).setCell ⟨b, o + 1, none⟩ (.int .u8 (v % 256)) := by
  have l0 : (0 : Int) < n := by omega
  have l1 : (1 : Int) < n := by omega
  go_enter Tryz.func90, Tryz.ntmps90
  go_wp2
  go_end0
  exact ⟨rfl, rfl⟩

/-- 'bePutUint16(b, v)' (stun) -/
theorem sput16_any (b o n c : Nat) (v : Int) (u0 u1 : Value) (w : World) (hn : 2 ≤ n) (hv : 0 ≤ v ∧ v ≤ 65535)
    (h0 : w.cell? ⟨b, o, none⟩ = some u0) (h1 : w.cell? ⟨b, o + 1, none⟩ = some u1) (f0 : w.frozen? ⟨b, o, none⟩ = false) (f1 : w.frozen? ⟨b, o + 1, none⟩ = false) :
    Calls Tryz.prog 49 #[.slice (some ⟨b, o, none⟩) n c, .int .u16 v] w fun e w' => e = .returned (.tuple #[]) ∧ w' = (w.setCell ⟨b, o, none⟩ (.int .u8 (v / 256))).setCell ⟨b, o + 1, none⟩ (.int .u8 (v % 256)) := by
  have l0 : (0 : Int) < n := by omega
  have l1 : (1 : Int) < n := by omega
  go_enter Tryz.func49, Tryz.ntmps49
  go_wp2
  go_end0
  exact ⟨rfl, rfl⟩

/-- 'bePutUint32(b, v)' -/
theorem tput32_any (b o n c : Nat) (v : Int) (u0 u1 u2 u3 : Value) (w : World) (hn : 4 ≤ n) (hv : 0 ≤ v ∧ v ≤ 4294967295)
    (h0 : w.cell? ⟨b, o, none⟩ = some u0) (h1 : w.cell? ⟨b, o + 1, none⟩ = some u1) (h2 : w.cell? ⟨b, o + 2, none⟩ = some u2) (h3 : w.cell? ⟨b, o + 3, none⟩ = some u3)
    (f0 : w.frozen? ⟨b, o, none⟩ = false) (f1 : w.frozen? ⟨b, o + 1, none⟩ = false) (f2 : w.frozen? ⟨b, o + 2, none⟩ = false) (f3 : w.frozen? ⟨b, o + 3, none⟩ = false) :
    Calls Tryz.prog 96 #[.slice (some ⟨b, o, none⟩) n c, .int .u32 v] w fun e w' => e = .returned (.tuple #[]) ∧
      w' = (((w.setCell ⟨b, o, none⟩ (.int .u8 (v / 16777216))).setCell ⟨b, o + 1, none⟩ (.int .u8 (v / 65536 % 256))).setCell ⟨b, o + 2, none⟩ (.int .u8 (v / 256 % 256))).setCell ⟨b, o + 3, none⟩ (.int .u8 (v % 256)) := by
  have l0 : (0 : Int) < n := by omega
  have l1 : (1 : Int) < n := by omega
  have l2 : (2 : Int) < n := by omega
  have l3 : (3 : Int) < n := by omega
  go_enter Tryz.func96, Tryz.ntmps96
  go_wp2
  go_end0
  exact ⟨rfl, rfl⟩

/-- 'bePutUint32(b, v)' -/
theorem sput32_any (b o n c : Nat) (v : Int) (u0 u1 u2 u3 : Value) (w : World) (hn : 4 ≤ n) (hv : 0 ≤ v ∧ v ≤ 4294967295)
    (h0 : w.cell? ⟨b, o, none⟩ = some u0) (h1 : w.cell? ⟨b, o + 1, none⟩ = some u1) (h2 : w.cell? ⟨b, o + 2, none⟩ = some u2) (h3 : w.cell? ⟨b, o + 3, none⟩ = some u3)
    (f0 : w.frozen? ⟨b, o, none⟩ = false) (f1 : w.frozen? ⟨b, o + 1, none⟩ = false) (f2 : w.frozen? ⟨b, o + 2, none⟩ = false) (f3 : w.frozen? ⟨b, o + 3, none⟩ = false) :
    Calls Tryz.prog 30 #[.slice (some ⟨b, o, none⟩) n c, .int .u32 v] w fun e w' => e = .returned (.tuple #[]) ∧
      w' = (((w.setCell ⟨b, o, none⟩ (.int .u8 (v / 16777216))).setCell ⟨b, o + 1, none⟩ (.int .u8 (v / 65536 % 256))).setCell ⟨b, o + 2, none⟩ (.int .u8 (v / 256 % 256))).setCell ⟨b, o + 3, none⟩ (.int .u8 (v % 256)) := by
  have l0 : (0 : Int) < n := by omega
  have l1 : (1 : Int) < n := by omega
  have l2 : (2 : Int) < n := by omega
  have l3 : (3 : Int) < n := by omega
  go_enter Tryz.func30, Tryz.ntmps30
  go_wp2
  go_end0
  exact ⟨rfl, rfl⟩

end Go.Proofs.YthgghgejndncnaaGreat

/- FLOATS: a whole number below 2^32 goes into a float64 and comes back as it was; a sum with nought beside it. -/
namespace Go.Proofs.YthgghgejndncnaaGreat
open Go

/-- the bits of a whole number as a float64 -/
def fbits (n : Nat) : Nat := Ieee.double.nearest false n 0

theorem cut_low (way : Ieee.Toward) (m k : Nat) (h : way = .even ∨ way = .zero) (hk : k ≤ (m * 2 ^ k).log2 + 2) : way.cut false (m * 2 ^ k) k = m := by
  have hp : 0 < 2 ^ k := Nat.two_pow_pos k
  have h0 : m * 2 ^ k % 2 ^ k = 0 := Nat.mul_mod_left _ _
  have h1 : m * 2 ^ k / 2 ^ k = m := Nat.mul_div_cancel _ hp
  have h2 : ¬ (2 ^ k < 2 * 0) := by omega
  have h3 : ((2 ^ k == 2 * 0) : Bool) = false := by rw [beq_eq_false_iff_ne]; omega
  unfold Ieee.Toward.cut
  simp only [Nat.min_eq_left hk, Nat.one_shiftLeft, h0, h1]
  rcases h with rfl | rfl
  · simp [h2, h3]
  · simp

theorem log2_mul_pow (n k : Nat) (h : n ≠ 0) : (n * 2 ^ k).log2 = n.log2 + k := by
  have h1 := Nat.log2_self_le h
  have h2 := @Nat.lt_log2_self n
  rw [Nat.log2_eq_iff (by have := Nat.two_pow_pos k; exact Nat.mul_ne_zero h (by omega))]
  refine ⟨?_, ?_⟩
  · rw [Nat.pow_add]; exact Nat.mul_le_mul_right _ h1
  · rw [show n.log2 + k + 1 = (n.log2 + 1) + k by omega, Nat.pow_add]
    exact Nat.mul_lt_mul_of_pos_right h2 (Nat.two_pow_pos k)

theorem frac_bounds (n : Nat) (h0 : n ≠ 0) (he : n.log2 ≤ 52) : 2 ^ 52 ≤ n * 2 ^ (52 - n.log2) ∧ n * 2 ^ (52 - n.log2) < 2 ^ 53 := by
  have h := log2_mul_pow n (52 - n.log2) h0
  have hne : n * 2 ^ (52 - n.log2) ≠ 0 := Nat.mul_ne_zero h0 (by have := Nat.two_pow_pos (52 - n.log2); omega)
  rw [show n.log2 + (52 - n.log2) = 52 by omega, Nat.log2_eq_iff hne] at h
  exact h

theorem fbits_eq (n : Nat) (h0 : n ≠ 0) (he : n.log2 ≤ 52) : fbits n = (n.log2 + 1022) * 2 ^ 52 + n * 2 ^ (52 - n.log2) := by
  obtain ⟨b1, b2⟩ := frac_bounds n h0 he
  generalize hm : n * 2 ^ (52 - n.log2) = m at *
  have hlp : Ieee.double.leastPlace = -1074 := by decide
  have hfb : (Ieee.double.fractionBits : Int) = 52 := by decide
  have hlast : max ((0 : Int) + n.log2 - 52) (-1074) = (n.log2 : Int) - 52 := by omega
  have hc : Ieee.Toward.even.cut false m 0 = m := by
    have := cut_low .even m 0 (.inl rfl) (by omega)
    rwa [Nat.pow_zero, Nat.mul_one] at this
  have hir : Ieee.double.infRung = 2047 * 2 ^ 52 := by decide
  have hbn : Ieee.double.binade = 2 ^ 52 := by decide
  unfold fbits Ieee.Format.nearest
  rw [if_neg h0]
  simp only [hlp, hir, hbn, hfb, hlast]
  rw [show ((0 : Int) - ((n.log2 : Int) - 52)).toNat = 52 - n.log2 by omega, show ((n.log2 : Int) - 52 - 0).toNat = 0 by omega, Nat.shiftLeft_eq, hm, hc, show ((n.log2 : Int) - 52 - -1074).toNat = n.log2 + 1022 by omega]
  unfold Ieee.Format.word
  simp only [Bool.false_eq_true, if_false]
  omega

theorem read_fbits (n : Nat) (h0 : n ≠ 0) (he : n.log2 ≤ 52) : Ieee.double.read (fbits n) = .number false (n * 2 ^ (52 - n.log2)) ((n.log2 : Int) - 52) := by
  rw [fbits_eq n h0 he]
  obtain ⟨b1, b2⟩ := frac_bounds n h0 he
  generalize n * 2 ^ (52 - n.log2) = m at *
  generalize n.log2 = e at *
  have hlp : Ieee.double.leastPlace = -1074 := by decide
  have hir : Ieee.double.infRung = 2047 * 2 ^ 52 := by decide
  have hbn : Ieee.double.binade = 2 ^ 52 := by decide
  have hsw : Ieee.double.signWeight = 2 ^ 63 := by decide
  unfold Ieee.Format.read
  simp only [hlp, hir, hbn, hsw]
  have e1 : ((e + 1022) * 2 ^ 52 + m) / 2 ^ 63 = 0 := by omega
  have e2 : ((e + 1022) * 2 ^ 52 + m) % 2 ^ 63 = (e + 1022) * 2 ^ 52 + m := by omega
  have e3 : ((e + 1022) * 2 ^ 52 + m) % 2 ^ 52 = m - 2 ^ 52 := by omega
  have e4 : ((e + 1022) * 2 ^ 52 + m) / 2 ^ 52 = e + 1023 := by omega
  rw [e1, e2, e3, e4, if_neg (by omega), if_pos (by omega)]
  have e5 : 2 ^ 52 + (m - 2 ^ 52) = m := by omega
  have e6 : (-1074 : Int) + ((e + 1023 - 1 : Nat) : Int) = (e : Int) - 52 := by omega
  rw [e5, e6]
  rfl

theorem fbits_back (n : Nat) (hn : n < 2 ^ 32) : floatToIntVal .f64 (fbits n) .u32 = some (n : Int) := by
  by_cases h0 : n = 0
  · subst h0; decide +kernel
  have he : n.log2 ≤ 31 := by
    have := (Nat.log2_lt h0 (k := 32)).2 hn
    omega
  have hr : (FloatKind.f64.decode (fbits n)).toInt .zero = some (n : Int) := by
    show (Ieee.double.read (fbits n)).toInt .zero = _
    rw [read_fbits n h0 (by omega)]
    unfold Ieee.Datum.toInt Ieee.Datum.integral
    simp only
    rw [show ((n.log2 : Int) - 52).toNat = 0 by omega, show (-((n.log2 : Int) - 52)).toNat = 52 - n.log2 by omega, Nat.shiftLeft_zero, cut_low .zero n (52 - n.log2) (.inr rfl) (by rw [log2_mul_pow n _ h0]; omega)]
    simp [Ieee.signed]
  unfold floatToIntVal
  rw [hr]
  simp only
  rw [if_pos]
  have h1 : IntKind.u32.min = 0 := by decide
  have h2 : IntKind.u32.max = 2 ^ 32 - 1 := by decide
  rw [h1, h2]
  omega

theorem scale (n : Nat) (h0 : n ≠ 0) (K a b : Nat) (h : a + b = K) : ∃ M, (n * 2 ^ a) <<< b = M ∧ M ≠ 0 ∧ M.log2 = n.log2 + K ∧ M = (n * 2 ^ a) * 2 ^ b := by
  subst h
  refine ⟨n * 2 ^ a * 2 ^ b, Nat.shiftLeft_eq _ _, ?_, ?_, rfl⟩
  · exact Nat.mul_ne_zero (Nat.mul_ne_zero h0 (Nat.ne_of_gt (Nat.two_pow_pos a))) (Nat.ne_of_gt (Nat.two_pow_pos b))
  · rw [log2_mul_pow _ _ (Nat.mul_ne_zero h0 (Nat.ne_of_gt (Nat.two_pow_pos a))), log2_mul_pow n a h0]
    omega

theorem cut_scaled (b m M : Nat) (hl : b ≤ M.log2 + 2) (hM : M = m * 2 ^ b) : Ieee.Toward.even.cut false M b = m := by
  subst hM
  exact cut_low .even m b (.inl rfl) hl

theorem last_scaled (L e : Nat) (hl : L = e + 1074) : max ((-1074 : Int) + L - 52) (-1074) = (e : Int) - 52 := by omega

theorem word_low (e m : Nat) (he : e ≤ 52) (b2 : m < 2 ^ 53) : Ieee.double.word false (min ((e + 1022) * 2 ^ 52 + m) (2047 * 2 ^ 52)) = (e + 1022) * 2 ^ 52 + m := by
  unfold Ieee.Format.word
  simp only [Bool.false_eq_true, if_false]
  omega

theorem nearest_low (e m M : Nat) (hne : M ≠ 0) (hl : M.log2 = e + 1074) (he : e ≤ 52) (hc : Ieee.Toward.even.cut false M (e + 1022) = m) (b2 : m < 2 ^ 53) : Ieee.double.nearest false M (-1074) = (e + 1022) * 2 ^ 52 + m := by
  have hlp : Ieee.double.leastPlace = -1074 := by decide
  have hfb : (Ieee.double.fractionBits : Int) = 52 := by decide
  have hlast := last_scaled M.log2 e hl
  have hir : Ieee.double.infRung = 2047 * 2 ^ 52 := by decide
  have hbn : Ieee.double.binade = 2 ^ 52 := by decide
  have t1 : ((-1074 : Int) - ((e : Int) - 52)).toNat = 0 := by clear hl hlast hc; omega
  have t2 : ((e : Int) - 52 - -1074).toNat = e + 1022 := by clear hl hlast hc; omega
  unfold Ieee.Format.nearest
  rw [if_neg hne]
  simp only [hlp, hir, hbn, hfb, hlast, t1, t2, Nat.shiftLeft_zero, hc]
  exact word_low e m he b2

theorem sum_low (m M b : Nat) (p : Int) (hb : min p (-1074) = -1074) (hp : (p - -1074).toNat = b) (hM : m <<< b = M) (hne : M ≠ 0) : (Ieee.Datum.number false m p).sum (.number false 0 (-1074)) = some (.number false M (-1074)) := by
  unfold Ieee.Datum.sum
  simp only [hb, hp]
  have hT : Ieee.signed false m b + Ieee.signed false 0 ((-1074 : Int) - -1074).toNat = (M : Int) := by
    unfold Ieee.signed
    simp only [Bool.false_eq_true, if_false]
    rw [hM]
    simp
  rw [hT]
  have h1 : ¬ ((M : Int) = 0) := by omega
  have h2 : ¬ ((M : Int) < 0) := by omega
  rw [if_neg h1, Int.natAbs_natCast, decide_eq_false h2]

theorem fbits_add (n : Nat) (hn : n < 2 ^ 32) : floatBits .add .f64 (fbits n) 0 = some (fbits n) := by
  by_cases h0 : n = 0
  · subst h0; decide +kernel
  have he : n.log2 ≤ 31 := by
    have := (Nat.log2_lt h0 (k := 32)).2 hn
    omega
  have hz : Ieee.double.read 0 = .number false 0 (-1074) := by decide +kernel
  obtain ⟨M, e1, e2, e3, e4⟩ := scale n h0 1074 (52 - n.log2) (n.log2 + 1022) (by omega)
  obtain ⟨b1, b2⟩ := frac_bounds n h0 (by omega)
  show (((Ieee.double.read (fbits n)).sum (Ieee.double.read 0)).map Ieee.double.write) = _
  rw [read_fbits n h0 (by omega), hz, sum_low _ M (n.log2 + 1022) _ (by omega) (by omega) e1 e2, fbits_eq n h0 (by omega)]
  show some (Ieee.double.nearest false M (-1074)) = _
  rw [nearest_low n.log2 (n * 2 ^ (52 - n.log2)) M e2 e3 (by clear e1 e4; omega) (cut_scaled _ _ _ (by rw [e3]; clear e1 e4; omega) e4) b2]

theorem fdiv_zero : floatBits .quo .f64 0 0x41CDCD6500000000 = some 0 := by decide +kernel
end Go.Proofs.YthgghgejndncnaaGreat
