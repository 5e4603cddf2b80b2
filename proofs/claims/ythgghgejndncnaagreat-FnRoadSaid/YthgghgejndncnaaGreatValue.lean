/- 'spec.Value'. -/
import Derived.Test.YthgghgejndncnaaGreatVal2
import Derived.Test.YthgghgejndncnaaGreatVal3
namespace Go.Proofs.YthgghgejndncnaaGreat
open Go.RowKit
set_option linter.unusedSimpArgs false
set_option linter.unusedVariables false

theorem value_any (k : Int) (id : List Int) (N : Int) (aA : Option Addr) (an ac : Nat) (ax : List Int) (P : Int) (dA : Option Addr) (dn dc : Nat) (dx : List Int) (w : World) (hk : 0 ≤ k ∧ k ≤ 10) (hid : id.length = 12) (hN : 0 ≤ N ∧ N ≤ 4294967295)
    (ha : ax.length = an) (hac : an ≤ ac) (hRa : Rd w aA ax) (hd : dx.length = dn) (hdc : dn ≤ dc) (hRd : Rd w dA dx) (h23 : k = 2 ∨ k = 3 → (0 ≤ P ∧ P ≤ 65535) ∧ (an = 4 ∨ an = 16)) :
    Calls Tryz.prog 23 #[.int .i64 k, idV id, atV N aA an ac P dA dn dc] w fun e w' => ∃ v, e = .returned v ∧ Reads w' v (valB k N ax P dx id) ∧ Below w.heap.size w w' := by
  have : k = 0 ∨ k = 1 ∨ k = 2 ∨ k = 3 ∨ k = 4 ∨ k = 5 ∨ k = 6 ∨ k = 7 ∨ k = 8 ∨ k = 9 ∨ k = 10 := by omega
  rcases this with rfl | rfl | rfl | rfl | rfl | rfl | rfl | rfl | rfl | rfl | rfl
  · exact value_0 id N aA an ac ax P dA dn dc dx w hN hd hdc hRd
  · exact value_1 id N aA an ac ax P dA dn dc dx w hN hd hdc hRd
  · exact value_2 id N aA an ac ax P dA dn dc dx w hid (h23 (by simp)).1 ha hac hRa (h23 (by simp)).2
  · exact value_3 id N aA an ac ax P dA dn dc dx w hid (h23 (by simp)).1 ha hac hRa (h23 (by simp)).2
  · exact value_4 id N aA an ac ax P dA dn dc dx w hN hd hdc hRd
  · exact value_5 id N aA an ac ax P dA dn dc dx w hN hd hdc hRd
  · exact value_6 id N aA an ac ax P dA dn dc dx w hN hd hdc hRd
  · exact value_7 id N aA an ac ax P dA dn dc dx w hN hd hdc hRd
  · exact value_8 id N aA an ac ax P dA dn dc dx w hN hd hdc hRd
  · exact value_9 id N aA an ac ax P dA dn dc dx w hN hd hdc hRd
  · exact value_10 id N aA an ac ax P dA dn dc dx w hN hd hdc hRd

theorem fam_rng (n : Nat) : 0 ≤ fam n ∧ fam n ≤ 255 := by unfold fam; split <;> omega
theorem x8_nat (a b : Int) (h1 : 0 ≤ a ∧ a ≤ 255) (h2 : 0 ≤ b ∧ b ≤ 255) : x8 a b = ((a.toNat ^^^ b.toNat : Nat) : Int) := u8_xor a b (by omega) (by omega) (by omega) (by omega)
theorem x8_rng (a b : Int) (h1 : 0 ≤ a ∧ a ≤ 255) (h2 : 0 ≤ b ∧ b ≤ 255) : 0 ≤ x8 a b ∧ x8 a b ≤ 255 := by
  rw [x8_nat a b h1 h2]
  have : a.toNat ^^^ b.toNat < 2 ^ 8 := Nat.xor_lt_two_pow (by omega) (by omega)
  omega
theorem x8_back (a b : Int) (h1 : 0 ≤ a ∧ a ≤ 255) (h2 : 0 ≤ b ∧ b ≤ 255) : x8 (x8 a b) b = a := by
  rw [x8_nat _ b (x8_rng a b h1 h2) h2, x8_nat a b h1 h2, Int.toNat_natCast, Nat.xor_assoc, Nat.xor_self, Nat.xor_zero]
  omega
theorem xorL_bys (xs ys : List Int) (h : Bys xs) (k : Bys ys) : Bys (xorL xs ys) := by
  induction xs generalizing ys with
  | nil => intro x hx; simp [xorL] at hx
  | cons a xs ih =>
    cases ys with
    | nil => intro x hx; simp [xorL] at hx
    | cons b ys =>
      intro x hx
      simp only [xorL, List.zipWith_cons_cons, List.mem_cons] at hx
      rcases hx with rfl | hx
      · exact x8_rng a b (h a (by simp)) (k b (by simp))
      · exact ih ys (fun z hz => h z (by simp [hz])) (fun z hz => k z (by simp [hz])) x hx
theorem xorL_back (xs ys : List Int) (h : Bys xs) (k : Bys ys) (hl : xs.length ≤ ys.length) : xorL (xorL xs ys) ys = xs := by
  induction xs generalizing ys with
  | nil => simp [xorL]
  | cons a xs ih =>
    cases ys with
    | nil => simp at hl
    | cons b ys =>
      simp only [xorL, List.zipWith_cons_cons]
      rw [x8_back a b (h a (by simp)) (k b (by simp))]
      congr 1
      exact ih ys (fun z hz => h z (by simp [hz])) (fun z hz => k z (by simp [hz])) (by simpa using hl)
theorem mask_bys (id : List Int) (h : Bys id) : Bys (mask id) := Bys.append (by intro x hx; simp at hx; omega) h
theorem valB_bys (k N : Int) (ax : List Int) (P : Int) (dx id : List Int) (hN : 0 ≤ N ∧ N ≤ 4294967295) (hP : k = 2 ∨ k = 3 → 0 ≤ P ∧ P ≤ 65535) (ha : Bys ax) (hd : Bys dx) (hi : Bys id) : Bys (valB k N ax P dx id) := by
  have hx := xorL_bys ax (mask id) ha (mask_bys id hi)
  have hf := fam_rng ax.length
  have h4 : Bys (put4 N) := by intro x hx; simp [put4] at hx; omega
  unfold valB
  split
  · intro x hx; simp [put2] at hx; omega
  split
  · exact h4
  split
  · have := x8_rng (P / 256 % 256) 33 (by omega) (by omega)
    have := x8_rng (P % 256) 18 (by omega) (by omega)
    refine Bys.append ?_ hx
    intro x hx; simp at hx; omega
  split
  · have := x8_rng (P / 256 % 256) 33 (by omega) (by omega)
    have := x8_rng (P % 256) 18 (by omega) (by omega)
    refine Bys.append ?_ hx
    intro x hx; simp at hx; omega
  split
  · exact hd
  split
  · intro x hx; simp at hx; omega
  split
  · exact hd
  split
  · intro x hx; simp at hx; omega
  split
  · intro x hx; simp at hx; omega
  split
  · intro x hx; cases hx
  · exact h4

end Go.Proofs.YthgghgejndncnaaGreat
