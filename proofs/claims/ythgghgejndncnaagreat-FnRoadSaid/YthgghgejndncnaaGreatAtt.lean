/- attributes as data: 'laws.zzFits1', 'laws.attr', 'spec.mapped', 'spec.Proper'. -/
import Derived.Test.YthgghgejndncnaaGreatM1
import Derived.Deep.LoopGhost
import Derived.Deep.RegionHeld
import Derived.Handy
import Derived.WalkSpells
import Derived.WalkLawsBesides
namespace Go.Proofs.YthgghgejndncnaaGreat
open Go.RowKit
set_option linter.unusedSimpArgs false
set_option linter.unusedVariables false

/-- the value of an attribute, of 'impl' or of 'spec' -/
@[reducible] def atV (N : Int) (aA : Option Addr) (an ac : Nat) (P : Int) (dA : Option Addr) (dn dc : Nat) : Value :=
  .agg #[.int .u32 N, .slice aA an ac, .int .i64 P, .slice dA dn dc]

theorem zzFits1_any (N : Int) (aA : Option Addr) (an ac : Nat) (P : Int) (dA : Option Addr) (dn dc : Nat) (w : World) :
    Calls Tryz.prog 4 #[atV N aA an ac P dA dn dc] w fun e w' => e = .returned (.bool (decide ((an : Int) ≤ 2147483647) && decide ((dn : Int) ≤ 2147483647))) ∧ Below w.heap.size w w' := by
  by_cases h1 : (2147483647 : Int) < an
  · have t1 : decide ((2147483647 : Int) < an) = true := decide_eq_true h1
    have e1 : decide ((an : Int) ≤ 2147483647) = false := decide_eq_false (by omega)
    go_enter Tryz.func4, Tryz.ntmps4
    go_wp2_with fail
    go_ret
    refine ⟨by first | rfl | (rw [e1]; rfl), (Below.refl _ _).alloc (Nat.le_refl _) _⟩
  have t1 : decide ((2147483647 : Int) < an) = false := decide_eq_false h1
  have e1 : decide ((an : Int) ≤ 2147483647) = true := decide_eq_true (by omega)
  by_cases h2 : (2147483647 : Int) < dn
  · have t2 : decide ((2147483647 : Int) < dn) = true := decide_eq_true h2
    have e2 : decide ((dn : Int) ≤ 2147483647) = false := decide_eq_false (by omega)
    go_enter Tryz.func4, Tryz.ntmps4
    go_wp2_with fail
    go_ret
    refine ⟨by first | rfl | (rw [e1, e2]; rfl), (Below.refl _ _).alloc (Nat.le_refl _) _⟩
  have t2 : decide ((2147483647 : Int) < dn) = false := decide_eq_false h2
  have e2 : decide ((dn : Int) ≤ 2147483647) = true := decide_eq_true (by omega)
  go_enter Tryz.func4, Tryz.ntmps4
  go_wp2_with fail
  go_ret
  refine ⟨by first | rfl | (rw [e1, e2]; rfl), (Below.refl _ _).alloc (Nat.le_refl _) _⟩

theorem attr_any (N : Int) (aA : Option Addr) (an ac : Nat) (P : Int) (dA : Option Addr) (dn dc : Nat) (w : World) :
    Calls Tryz.prog 9 #[atV N aA an ac P dA dn dc] w fun e w' => e = .returned (atV N aA an ac P dA dn dc) ∧ Below w.heap.size w w' := by
  go_enter Tryz.func9, Tryz.ntmps9
  go_wp2_with fail
  refine bodyPost_ret (v := atV N aA an ac P dA dn dc) (by simp [results, Tryz.results9, go_sem]) rfl ?_
  exact ⟨rfl, ((Below.refl _ _).alloc (Nat.le_refl _) _).alloc (by simp) _⟩

/-- 'spec.mapped' -/
def want12 (j : Nat) : Int := if j < 10 then 0 else 255
def mappedB (xs : List Int) : Bool := (List.range 12).all fun j => decide (xs.getD j 0 = want12 j)
theorem mappedB_true {xs : List Int} (h : ∀ j, j < 12 → xs.getD j 0 = want12 j) : mappedB xs = true := by
  simp only [mappedB, List.all_eq_true, List.mem_range, decide_eq_true_eq]
  exact h
theorem mappedB_false {xs : List Int} {j : Nat} (hj : j < 12) (h : xs.getD j 0 ≠ want12 j) : mappedB xs = false := by
  rw [← Bool.not_eq_true]
  simp only [mappedB, List.all_eq_true, List.mem_range, decide_eq_true_eq]
  exact fun hh => h (hh j hj)
theorem want_lo {i : Nat} (h : i < 10) : want12 i = 0 := if_pos h
theorem want_hi {i : Nat} (h : ¬ i < 10) : want12 i = 255 := if_neg h

set_option maxHeartbeats 1000000 in
theorem mapped_any (A : Option Addr) (n c : Nat) (xs : List Int) (w : World) (hn : xs.length = n) (h16 : n = 16) (hnc : n ≤ c) (hR : Rd w A xs) :
    Calls Tryz.prog 22 #[.slice A n c] w fun e w' => e = .returned (.bool (mappedB xs)) ∧ w' = w := by
  subst h16
  obtain ⟨b, o, rfl, hc⟩ := hR (by intro e; subst e; simp at hn)
  have n0 : (12 : Int) ≤ c := by omega
  have HC := Lib.hid hc
  have HN := Lib.hid hn
  have HR := Lib.hid hR
  clear hc hn hR
  go_enter Tryz.func22, Tryz.ntmps22
  go_wp2_with fail
  go_loopg [9] 12 (fun kq v9 wr => ∃ i : Nat, kq + i = 12 ∧ v9 = .int .i64 i ∧ wr = w ∧ Hid (∀ j, j < i → xs.getD j 0 = want12 j))
  case atStart => exact ⟨0, rfl, rfl, rfl, Lib.hid (by omega)⟩
  case round =>
    obtain ⟨i, hi, rfl, rfl, hd⟩ := hrel
    by_cases hlt : i < 12
    · have t0 : decide ((i : Int) < 12) = true := decide_eq_true (by omega)
      have hci := HC.out i (by have := HN.out; omega)
      by_cases h10 : i < 10
      · have t1 : decide ((10 : Int) ≤ i) = false := decide_eq_false (by omega)
        have t2 : decide ((i : Int) < 10) = true := decide_eq_true (by omega)
        by_cases hx : xs.getD i 0 = 0
        · have t3 : (xs.getD i 0 != 0) = false := bne_eq_false_iff_eq.2 hx
          have hd' : Hid (∀ j, j < i + 1 → xs.getD j 0 = want12 j) := Lib.hid (fun j hj => by
            rcases Nat.lt_or_ge j i with h | h
            · exact hd.out j h
            · obtain rfl : j = i := by omega
              rw [hx, want_lo h10])
          generalize xs.getD i 0 = x at *
          go_wp2_with fail
          go_roundg (gk - 1)
          case measure => omega
          case rel => exact ⟨i + 1, by omega, by simp, rfl, hd'⟩
        · have t3 : (xs.getD i 0 != 0) = true := bne_iff_ne.2 hx
          have HM := mappedB_false (xs := xs) (j := i) (by omega) (by rw [want_lo h10]; exact hx)
          generalize xs.getD i 0 = x at *
          go_wp2_with fail
          go_ret
          exact ⟨by rw [HM]; rfl, rfl⟩
      · have t1 : decide ((10 : Int) ≤ i) = true := decide_eq_true (by omega)
        have t2 : decide ((i : Int) < 10) = false := decide_eq_false (by omega)
        by_cases hx : xs.getD i 0 = 255
        · have t3 : (xs.getD i 0 != 255) = false := bne_eq_false_iff_eq.2 hx
          have hd' : Hid (∀ j, j < i + 1 → xs.getD j 0 = want12 j) := Lib.hid (fun j hj => by
            rcases Nat.lt_or_ge j i with h | h
            · exact hd.out j h
            · obtain rfl : j = i := by omega
              rw [hx, want_hi h10])
          generalize xs.getD i 0 = x at *
          go_wp2_with fail
          go_roundg (gk - 1)
          case measure => omega
          case rel => exact ⟨i + 1, by omega, by simp, rfl, hd'⟩
        · have t3 : (xs.getD i 0 != 255) = true := bne_iff_ne.2 hx
          have HM := mappedB_false (xs := xs) (j := i) (by omega) (by rw [want_hi h10]; exact hx)
          generalize xs.getD i 0 = x at *
          go_wp2_with fail
          go_ret
          exact ⟨by rw [HM]; rfl, rfl⟩
    · have t0 : decide ((i : Int) < 12) = false := decide_eq_false (by omega)
      have HM := mappedB_true (xs := xs) (fun j hj => hd.out j (by omega))
      go_wp2_with fail
      go_ret
      exact ⟨by rw [HM]; rfl, rfl⟩
end Go.Proofs.YthgghgejndncnaaGreat
