/- 'spec.Proper' for each kind, 'laws.fits'. -/
import Derived.Test.YthgghgejndncnaaProper
namespace Go.Proofs.Ythgghgejndncnaa
open Go.RowKit
set_option linter.unusedSimpArgs false
set_option linter.unusedVariables false

theorem kinds {k : Int} (hk : 0 ≤ k ∧ k ≤ 10) : k = 0 ∨ k = 1 ∨ k = 2 ∨ k = 3 ∨ k = 4 ∨ k = 5 ∨ k = 6 ∨ k = 7 ∨ k = 8 ∨ k = 9 ∨ k = 10 := by omega

theorem proper_any (k N : Int) (aA : Option Addr) (an ac : Nat) (ax : List Int) (P : Int) (dA : Option Addr) (dn dc : Nat) (w : World) (hk : 0 ≤ k ∧ k ≤ 10) (hn : ax.length = an) (hnc : an ≤ ac) (hR : Rd w aA ax) :
    Calls Try.prog 21 #[.int .i64 k, atV N aA an ac P dA dn dc] w fun e w' => e = .returned (.bool (properB k N an ax P dn)) ∧ Below w.heap.size w w' := by
  rcases kinds hk with rfl | rfl | rfl | rfl | rfl | rfl | rfl | rfl | rfl | rfl | rfl
  · exact proper_0 N aA an ac ax P dA dn dc w hn hnc hR
  · exact proper_1 N aA an ac ax P dA dn dc w hn hnc hR
  · exact proper_2 N aA an ac ax P dA dn dc w hn hnc hR
  · exact proper_3 N aA an ac ax P dA dn dc w hn hnc hR
  · exact proper_4 N aA an ac ax P dA dn dc w hn hnc hR
  · exact proper_5 N aA an ac ax P dA dn dc w hn hnc hR
  · exact proper_6 N aA an ac ax P dA dn dc w hn hnc hR
  · exact proper_7 N aA an ac ax P dA dn dc w hn hnc hR
  · exact proper_8 N aA an ac ax P dA dn dc w hn hnc hR
  · exact proper_9 N aA an ac ax P dA dn dc w hn hnc hR
  · exact proper_10 N aA an ac ax P dA dn dc w hn hnc hR

def fitsB (k N : Int) (an : Nat) (ax : List Int) (P : Int) (dn : Nat) : Bool := decide (0 ≤ k) && decide (k ≤ 10) && properB k N an ax P dn

set_option maxHeartbeats 1000000 in
theorem fits_any (k N : Int) (aA : Option Addr) (an ac : Nat) (ax : List Int) (P : Int) (dA : Option Addr) (dn dc : Nat) (w : World) (hn : ax.length = an) (hnc : an ≤ ac) (hR : Rd w aA ax) :
    Calls Try.prog 17 #[.int .i64 k, atV N aA an ac P dA dn dc] w fun e w' => e = .returned (.bool (fitsB k N an ax P dn)) ∧ Below w.heap.size w w' := by
  have HN := Lib.hid hn
  have HR := Lib.hid (hR.alloc (.cells #[.int .u32 N, .slice aA an ac, .int .i64 P, .slice dA dn dc] 34))
  clear hn hR
  by_cases h0 : 0 ≤ k
  · have t0 : decide (0 ≤ k) = true := decide_eq_true h0
    by_cases h1 : k ≤ 10
    · have t1 : decide (k ≤ 10) = true := decide_eq_true h1
      go_enter Try.func17, Try.ntmps17
      go_wp2_with (first
        | (go_at_call 18; refine (attr_any _ _ _ _ _ _ _ _ _).mono ?_; rintro e w1 ⟨rfl, hB1⟩; have HR1 := Lib.hid (HR.out.below hB1); have HB1 := Lib.hid (((Below.refl w.heap.size w).alloc (Nat.le_refl _) (.cells #[.int .u32 N, .slice aA an ac, .int .i64 P, .slice dA dn dc] 34)).trans (hB1.mono (by simp))); clear hB1)
        | (go_at_call 21; refine (proper_any _ _ _ _ _ ax _ _ _ _ _ ⟨h0, h1⟩ HN.out hnc ?_).mono ?_; exact HR1.out; rintro e w2 ⟨rfl, hB2⟩; have HB2 := Lib.hid (HB1.out.trans (hB2.mono HB1.out.size)); clear hB2))
      go_ret
      exact ⟨by simp [fitsB, *], HB2.out⟩
    · have t1 : decide (k ≤ 10) = false := decide_eq_false h1
      go_enter Try.func17, Try.ntmps17
      go_wp2_with fail
      go_ret
      exact ⟨by simp [fitsB, *], (Below.refl _ _).alloc (Nat.le_refl _) _⟩
  · have t0 : decide (0 ≤ k) = false := decide_eq_false h0
    go_enter Try.func17, Try.ntmps17
    go_wp2_with fail
    go_ret
    exact ⟨by simp [fitsB, *], (Below.refl _ _).alloc (Nat.le_refl _) _⟩
end Go.Proofs.Ythgghgejndncnaa
