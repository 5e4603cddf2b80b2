/- THE FIRST CONTRACTS: numbers of channels. -/
import Derived.Test.YthgghgejndncnaaRows
import Derived.WalkKit
import Derived.WalkSpells
import Derived.WalkLawsBesides
namespace Go.Proofs.Ythgghgejndncnaa
open Go.RowKit
set_option linter.unusedSimpArgs false
set_option linter.unusedVariables false

theorem ret_int {k : IntKind} {a b : Int} (h : a = b) : Ending.returned (.int k a) = .returned (.int k b) := by rw [h]

/-- 'isChannelNumberValid(c)' -/
theorem isCN_any (n : Int) (w : World) :
    Calls Try.prog 45 #[.int .u16 n] w fun e w' => e = .returned (.bool (decide (16384 ≤ n) && decide (n ≤ 32767))) ∧ w = w' := by
  by_cases h : 16384 ≤ n
  · have hd : decide (16384 ≤ n) = true := decide_eq_true h
    go_enter Try.func45, Try.ntmps45
    go_wp2
    go_ret
    exact ⟨by simp [hd], rfl⟩
  · have hd : decide (16384 ≤ n) = false := decide_eq_false h
    go_enter Try.func45, Try.ntmps45
    go_wp2
    go_ret
    exact ⟨by simp [hd], rfl⟩

/-- 'spec.Valid(n)' -/
theorem sValid_any (n : Int) (w : World) :
    Calls Try.prog 10 #[.int .i64 n] w fun e w' => e = .returned (.bool (decide (16384 ≤ n) && decide (n ≤ 32767))) ∧ w = w' := by
  by_cases h : 16384 ≤ n
  · have hd : decide (16384 ≤ n) = true := decide_eq_true h
    go_enter Try.func10, Try.ntmps10
    go_wp2
    go_ret
    exact ⟨by simp [hd], rfl⟩
  · have hd : decide (16384 ≤ n) = false := decide_eq_false h
    go_enter Try.func10, Try.ntmps10
    go_wp2
    go_ret
    exact ⟨by simp [hd], rfl⟩

/-- '(ChannelNumber).Valid' -/
theorem cnValid_any (n : Int) (w : World) :
    Calls Try.prog 26 #[.int .u16 n] w fun e w' => e = .returned (.bool (decide (16384 ≤ n) && decide (n ≤ 32767))) ∧ w = w' := by
  go_enter Try.func26, Try.ntmps26
  go_wp2_with (go_at_call 45; refine (isCN_any _ _).mono ?_; rintro e w' ⟨rfl, rfl⟩)
  go_ret
  exact ⟨rfl, rfl⟩

/-- 'impl.ValidChannel(n)' of a number of sixteen bits -/
theorem vChannel_in (n : Int) (w : World) (h0 : 0 ≤ n) (h1 : n ≤ 65535) :
    Calls Try.prog 9 #[.int .i64 n] w fun e w' => e = .returned (.bool (decide (16384 ≤ n) && decide (n ≤ 32767))) ∧ w = w' := by
  go_enter Try.func9, Try.ntmps9
  go_wp2_with (go_at_call 26; refine (cnValid_any _ _).mono ?_; rintro e w' ⟨rfl, rfl⟩)
  go_ret
  exact ⟨rfl, rfl⟩

/-- 'works()' -/
theorem works_true (w : World) :
    Calls Try.prog 11 #[] w fun e w' => e = .returned (.bool true) ∧ w = w' := by
  go_enter Try.func11, Try.ntmps11
  go_wp2_with (go_at_call 9; refine (vChannel_in _ _ (by omega) (by omega)).mono ?_; rintro e w' ⟨rfl, rfl⟩)
  go_ret
  exact ⟨rfl, rfl⟩

end Go.Proofs.Ythgghgejndncnaa
