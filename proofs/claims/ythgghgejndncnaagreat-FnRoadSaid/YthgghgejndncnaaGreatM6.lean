/- 'spec.Proper', 'laws.fits'. -/
import Derived.Test.YthgghgejndncnaaGreatAtt
namespace Go.Proofs.YthgghgejndncnaaGreat
open Go.RowKit
set_option linter.unusedSimpArgs false
set_option linter.unusedVariables false

def properB (k N : Int) (an : Nat) (ax : List Int) (P : Int) (dn : Nat) : Bool :=
  if k = 0 then decide (16384 ≤ N) && decide (N ≤ 32767)
  else if k = 1 then true
  else if k = 2 then (((an : Int) == 4) || (((an : Int) == 16) && !mappedB ax)) && decide (0 ≤ P) && decide (P ≤ 65535)
  else if k = 3 then (((an : Int) == 4) || (((an : Int) == 16) && !mappedB ax)) && decide (0 ≤ P) && decide (P ≤ 65535)
  else if k = 4 then decide ((dn : Int) ≤ 1000)
  else if k = 5 then decide (N ≤ 1)
  else if k = 6 then ((dn : Int) == 8)
  else if k = 7 then decide (N ≤ 255)
  else if k = 8 then (N == 1) || (N == 2)
  else if k = 9 then true
  else if k = 10 then true
  else false

set_option maxHeartbeats 2000000 in
theorem proper_0 (N : Int) (aA : Option Addr) (an ac : Nat) (ax : List Int) (P : Int) (dA : Option Addr) (dn dc : Nat) (w : World) (hn : ax.length = an) (hnc : an ≤ ac) (hR : Rd w aA ax) :
    Calls Tryz.prog 10 #[.int .i64 0, atV N aA an ac P dA dn dc] w fun e w' => e = .returned (.bool (properB 0 N an ax P dn)) ∧ Below w.heap.size w w' := by
  have HN := Lib.hid hn
  have HR := Lib.hid (hR.alloc (.cells #[.int .u32 N, .slice aA an ac, .int .i64 P, .slice dA dn dc] 34))
  clear hn hR
  rcases Bool.eq_false_or_eq_true (decide (16384 ≤ N)) with b0 | b0 <;>
    rcases Bool.eq_false_or_eq_true (decide (N ≤ 32767)) with b1 | b1
  all_goals (go_enter Tryz.func10, Tryz.ntmps10; go_wp2_with (fail); go_ret; exact ⟨by simp [properB, *], (Below.refl _ _).alloc (Nat.le_refl _) _⟩)

set_option maxHeartbeats 2000000 in
theorem proper_1 (N : Int) (aA : Option Addr) (an ac : Nat) (ax : List Int) (P : Int) (dA : Option Addr) (dn dc : Nat) (w : World) (hn : ax.length = an) (hnc : an ≤ ac) (hR : Rd w aA ax) :
    Calls Tryz.prog 10 #[.int .i64 1, atV N aA an ac P dA dn dc] w fun e w' => e = .returned (.bool (properB 1 N an ax P dn)) ∧ Below w.heap.size w w' := by
  have HN := Lib.hid hn
  have HR := Lib.hid (hR.alloc (.cells #[.int .u32 N, .slice aA an ac, .int .i64 P, .slice dA dn dc] 34))
  clear hn hR
  all_goals (go_enter Tryz.func10, Tryz.ntmps10; go_wp2_with (fail); go_ret; exact ⟨by simp [properB, *], (Below.refl _ _).alloc (Nat.le_refl _) _⟩)

set_option maxHeartbeats 2000000 in
theorem proper_2 (N : Int) (aA : Option Addr) (an ac : Nat) (ax : List Int) (P : Int) (dA : Option Addr) (dn dc : Nat) (w : World) (hn : ax.length = an) (hnc : an ≤ ac) (hR : Rd w aA ax) :
    Calls Tryz.prog 10 #[.int .i64 2, atV N aA an ac P dA dn dc] w fun e w' => e = .returned (.bool (properB 2 N an ax P dn)) ∧ Below w.heap.size w w' := by
  have HN := Lib.hid hn
  have HR := Lib.hid (hR.alloc (.cells #[.int .u32 N, .slice aA an ac, .int .i64 P, .slice dA dn dc] 34))
  clear hn hR
  rcases Bool.eq_false_or_eq_true (((an : Int) == 4)) with b0 | b0 <;>
    rcases Bool.eq_false_or_eq_true (((an : Int) == 16)) with b1 | b1 <;>
    rcases Bool.eq_false_or_eq_true (mappedB ax) with b2 | b2 <;>
    rcases Bool.eq_false_or_eq_true (decide (0 ≤ P)) with b3 | b3 <;>
    all_goals (go_enter Tryz.func10, Tryz.ntmps10; go_wp2_with (go_at_call 22; refine (mapped_any aA an ac ax _ HN.out (by rw [beq_iff_eq] at b1; omega) hnc HR.out).mono ?_; rintro e w' ⟨rfl, rfl⟩; rw [b2]); go_ret; exact ⟨by simp [properB, *], (Below.refl _ _).alloc (Nat.le_refl _) _⟩)

set_option maxHeartbeats 2000000 in
theorem proper_3 (N : Int) (aA : Option Addr) (an ac : Nat) (ax : List Int) (P : Int) (dA : Option Addr) (dn dc : Nat) (w : World) (hn : ax.length = an) (hnc : an ≤ ac) (hR : Rd w aA ax) :
    Calls Tryz.prog 10 #[.int .i64 3, atV N aA an ac P dA dn dc] w fun e w' => e = .returned (.bool (properB 3 N an ax P dn)) ∧ Below w.heap.size w w' := by
  have HN := Lib.hid hn
  have HR := Lib.hid (hR.alloc (.cells #[.int .u32 N, .slice aA an ac, .int .i64 P, .slice dA dn dc] 34))
  clear hn hR
  rcases Bool.eq_false_or_eq_true (((an : Int) == 4)) with b0 | b0 <;>
    rcases Bool.eq_false_or_eq_true (((an : Int) == 16)) with b1 | b1 <;>
    rcases Bool.eq_false_or_eq_true (mappedB ax) with b2 | b2 <;>
    rcases Bool.eq_false_or_eq_true (decide (0 ≤ P)) with b3 | b3 <;>
    rcases Bool.eq_false_or_eq_true (decide (P ≤ 65535)) with b4 | b4
  all_goals (go_enter Tryz.func10, Tryz.ntmps10; go_wp2_with (go_at_call 22; refine (mapped_any aA an ac ax _ HN.out (by rw [beq_iff_eq] at b1; omega) hnc HR.out).mono ?_; rintro e w' ⟨rfl, rfl⟩; rw [b2]); go_ret; exact ⟨by simp [properB, *], (Below.refl _ _).alloc (Nat.le_refl _) _⟩)

set_option maxHeartbeats 2000000 in
theorem proper_4 (N : Int) (aA : Option Addr) (an ac : Nat) (ax : List Int) (P : Int) (dA : Option Addr) (dn dc : Nat) (w : World) (hn : ax.length = an) (hnc : an ≤ ac) (hR : Rd w aA ax) :
    Calls Tryz.prog 10 #[.int .i64 4, atV N aA an ac P dA dn dc] w fun e w' => e = .returned (.bool (properB 4 N an ax P dn)) ∧ Below w.heap.size w w' := by
  have HN := Lib.hid hn
  have HR := Lib.hid (hR.alloc (.cells #[.int .u32 N, .slice aA an ac, .int .i64 P, .slice dA dn dc] 34))
  clear hn hR
  rcases Bool.eq_false_or_eq_true (decide ((dn : Int) ≤ 1000)) with b0 | b0
  all_goals (go_enter Tryz.func10, Tryz.ntmps10; go_wp2_with (fail); go_ret; exact ⟨by simp [properB, *], (Below.refl _ _).alloc (Nat.le_refl _) _⟩)

set_option maxHeartbeats 2000000 in
theorem proper_5 (N : Int) (aA : Option Addr) (an ac : Nat) (ax : List Int) (P : Int) (dA : Option Addr) (dn dc : Nat) (w : World) (hn : ax.length = an) (hnc : an ≤ ac) (hR : Rd w aA ax) :
    Calls Tryz.prog 10 #[.int .i64 5, atV N aA an ac P dA dn dc] w fun e w' => e = .returned (.bool (properB 5 N an ax P dn)) ∧ Below w.heap.size w w' := by
  have HN := Lib.hid hn
  have HR := Lib.hid (hR.alloc (.cells #[.int .u32 N, .slice aA an ac, .int .i64 P, .slice dA dn dc] 34))
  clear hn hR
  rcases Bool.eq_false_or_eq_true (decide (N ≤ 1)) with b0 | b0
  all_goals (go_enter Tryz.func10, Tryz.ntmps10; go_wp2_with (fail); go_ret; exact ⟨by simp [properB, *], (Below.refl _ _).alloc (Nat.le_refl _) _⟩)

set_option maxHeartbeats 2000000 in
theorem proper_6 (N : Int) (aA : Option Addr) (an ac : Nat) (ax : List Int) (P : Int) (dA : Option Addr) (dn dc : Nat) (w : World) (hn : ax.length = an) (hnc : an ≤ ac) (hR : Rd w aA ax) :
    Calls Tryz.prog 10 #[.int .i64 6, atV N aA an ac P dA dn dc] w fun e w' => e = .returned (.bool (properB 6 N an ax P dn)) ∧ Below w.heap.size w w' := by
  have HN := Lib.hid hn
  have HR := Lib.hid (hR.alloc (.cells #[.int .u32 N, .slice aA an ac, .int .i64 P, .slice dA dn dc] 34))
  clear hn hR
  rcases Bool.eq_false_or_eq_true (((dn : Int) == 8)) with b0 | b0
  all_goals (go_enter Tryz.func10, Tryz.ntmps10; go_wp2_with (fail); go_ret; exact ⟨by simp [properB, *], (Below.refl _ _).alloc (Nat.le_refl _) _⟩)

set_option maxHeartbeats 2000000 in
theorem proper_7 (N : Int) (aA : Option Addr) (an ac : Nat) (ax : List Int) (P : Int) (dA : Option Addr) (dn dc : Nat) (w : World) (hn : ax.length = an) (hnc : an ≤ ac) (hR : Rd w aA ax) :
    Calls Tryz.prog 10 #[.int .i64 7, atV N aA an ac P dA dn dc] w fun e w' => e = .returned (.bool (properB 7 N an ax P dn)) ∧ Below w.heap.size w w' := by
  have HN := Lib.hid hn
  have HR := Lib.hid (hR.alloc (.cells #[.int .u32 N, .slice aA an ac, .int .i64 P, .slice dA dn dc] 34))
  clear hn hR
  rcases Bool.eq_false_or_eq_true (decide (N ≤ 255)) with b0 | b0
  all_goals (go_enter Tryz.func10, Tryz.ntmps10; go_wp2_with (fail); go_ret; exact ⟨by simp [properB, *], (Below.refl _ _).alloc (Nat.le_refl _) _⟩)

set_option maxHeartbeats 2000000 in
theorem proper_8 (N : Int) (aA : Option Addr) (an ac : Nat) (ax : List Int) (P : Int) (dA : Option Addr) (dn dc : Nat) (w : World) (hn : ax.length = an) (hnc : an ≤ ac) (hR : Rd w aA ax) :
    Calls Tryz.prog 10 #[.int .i64 8, atV N aA an ac P dA dn dc] w fun e w' => e = .returned (.bool (properB 8 N an ax P dn)) ∧ Below w.heap.size w w' := by
  have HN := Lib.hid hn
  have HR := Lib.hid (hR.alloc (.cells #[.int .u32 N, .slice aA an ac, .int .i64 P, .slice dA dn dc] 34))
  clear hn hR
  rcases Bool.eq_false_or_eq_true ((N == 1)) with b0 | b0 <;>
    rcases Bool.eq_false_or_eq_true ((N == 2)) with b1 | b1
  all_goals (go_enter Tryz.func10, Tryz.ntmps10; go_wp2_with (fail); go_ret; exact ⟨by simp [properB, *], (Below.refl _ _).alloc (Nat.le_refl _) _⟩)

set_option maxHeartbeats 2000000 in
theorem proper_9 (N : Int) (aA : Option Addr) (an ac : Nat) (ax : List Int) (P : Int) (dA : Option Addr) (dn dc : Nat) (w : World) (hn : ax.length = an) (hnc : an ≤ ac) (hR : Rd w aA ax) :
    Calls Tryz.prog 10 #[.int .i64 9, atV N aA an ac P dA dn dc] w fun e w' => e = .returned (.bool (properB 9 N an ax P dn)) ∧ Below w.heap.size w w' := by
  have HN := Lib.hid hn
  have HR := Lib.hid (hR.alloc (.cells #[.int .u32 N, .slice aA an ac, .int .i64 P, .slice dA dn dc] 34))
  clear hn hR
  all_goals (go_enter Tryz.func10, Tryz.ntmps10; go_wp2_with (fail); go_ret; exact ⟨by simp [properB, *], (Below.refl _ _).alloc (Nat.le_refl _) _⟩)

set_option maxHeartbeats 2000000 in
theorem proper_10 (N : Int) (aA : Option Addr) (an ac : Nat) (ax : List Int) (P : Int) (dA : Option Addr) (dn dc : Nat) (w : World) (hn : ax.length = an) (hnc : an ≤ ac) (hR : Rd w aA ax) :
    Calls Tryz.prog 10 #[.int .i64 10, atV N aA an ac P dA dn dc] w fun e w' => e = .returned (.bool (properB 10 N an ax P dn)) ∧ Below w.heap.size w w' := by
  have HN := Lib.hid hn
  have HR := Lib.hid (hR.alloc (.cells #[.int .u32 N, .slice aA an ac, .int .i64 P, .slice dA dn dc] 34))
  clear hn hR
  all_goals (go_enter Tryz.func10, Tryz.ntmps10; go_wp2_with (fail); go_ret; exact ⟨by simp [properB, *], (Below.refl _ _).alloc (Nat.le_refl _) _⟩)

end Go.Proofs.YthgghgejndncnaaGreat

/- 'spec.Proper' for each kind, 'laws.fits'. -/
namespace Go.Proofs.YthgghgejndncnaaGreat
open Go.RowKit
set_option linter.unusedSimpArgs false
set_option linter.unusedVariables false

theorem kinds {k : Int} (hk : 0 ≤ k ∧ k ≤ 10) : k = 0 ∨ k = 1 ∨ k = 2 ∨ k = 3 ∨ k = 4 ∨ k = 5 ∨ k = 6 ∨ k = 7 ∨ k = 8 ∨ k = 9 ∨ k = 10 := by omega

theorem proper_any (k N : Int) (aA : Option Addr) (an ac : Nat) (ax : List Int) (P : Int) (dA : Option Addr) (dn dc : Nat) (w : World) (hk : 0 ≤ k ∧ k ≤ 10) (hn : ax.length = an) (hnc : an ≤ ac) (hR : Rd w aA ax) :
    Calls Tryz.prog 10 #[.int .i64 k, atV N aA an ac P dA dn dc] w fun e w' => e = .returned (.bool (properB k N an ax P dn)) ∧ Below w.heap.size w w' := by
  rcases kinds hk with rfl | rfl | rfl | rfl | rfl | rfl | rfl | rfl | rfl | rfl | rfl
  · exact proper_0 N aA an ac ax P dA dn dc w hn hnc hR
  · exact proper_1 N aA an ac ax P dA dn dc w hn hnc hR
  · exact proper_2 N aA an ac ax P dA dn dc w hn hnc hR
  · exact proper_3 N aA an ac ax P dA dn dc w hn hnc hR
  · exact proper_4 N aA an ac ax P dA dn dc w hn hnc hR
  · exact proper_5 N aA an ac ax P dA dn dc w hn hnc hR
  · exact proper_6 N aA an ac ax P dA dn dc w hn hnc hR
  · exact proper_7 N aA an ac ax P dA dn dc w hn hnc hR
  · exact proper_8 N aA an ac ax P dA dn dc w hn hnc hR
  · exact proper_9 N aA an ac ax P dA dn dc w hn hnc hR
  · exact proper_10 N aA an ac ax P dA dn dc w hn hnc hR

def fitsB (k N : Int) (an : Nat) (ax : List Int) (P : Int) (dn : Nat) : Bool := decide (0 ≤ k) && decide (k ≤ 10) && properB k N an ax P dn

set_option maxHeartbeats 1000000 in
theorem fits_any (k N : Int) (aA : Option Addr) (an ac : Nat) (ax : List Int) (P : Int) (dA : Option Addr) (dn dc : Nat) (w : World) (hn : ax.length = an) (hnc : an ≤ ac) (hR : Rd w aA ax) :
    Calls Tryz.prog 5 #[.int .i64 k, atV N aA an ac P dA dn dc] w fun e w' => e = .returned (.bool (fitsB k N an ax P dn)) ∧ Below w.heap.size w w' := by
  have HN := Lib.hid hn
  have HR := Lib.hid (hR.alloc (.cells #[.int .u32 N, .slice aA an ac, .int .i64 P, .slice dA dn dc] 26))
  clear hn hR
  by_cases h0 : 0 ≤ k
  · have t0 : decide (0 ≤ k) = true := decide_eq_true h0
    by_cases h1 : k ≤ 10
    · have t1 : decide (k ≤ 10) = true := decide_eq_true h1
      go_enter Tryz.func5, Tryz.ntmps5
      go_wp2_with (first
        | (go_at_call 9; refine (attr_any _ _ _ _ _ _ _ _ _).mono ?_; rintro e w1 ⟨rfl, hB1⟩; have HR1 := Lib.hid (HR.out.below hB1); have HB1 := Lib.hid (((Below.refl w.heap.size w).alloc (Nat.le_refl _) (.cells #[.int .u32 N, .slice aA an ac, .int .i64 P, .slice dA dn dc] 26)).trans (hB1.mono (by simp))); clear hB1)
        | (go_at_call 10; refine (proper_any _ _ _ _ _ ax _ _ _ _ _ ⟨h0, h1⟩ HN.out hnc ?_).mono ?_; exact HR1.out; rintro e w2 ⟨rfl, hB2⟩; have HB2 := Lib.hid (HB1.out.trans (hB2.mono HB1.out.size)); clear hB2))
      go_ret
      exact ⟨by simp [fitsB, *], HB2.out⟩
    · have t1 : decide (k ≤ 10) = false := decide_eq_false h1
      go_enter Tryz.func5, Tryz.ntmps5
      go_wp2_with fail
      go_ret
      exact ⟨by simp [fitsB, *], (Below.refl _ _).alloc (Nat.le_refl _) _⟩
  · have t0 : decide (0 ≤ k) = false := decide_eq_false h0
    go_enter Tryz.func5, Tryz.ntmps5
    go_wp2_with fail
    go_ret
    exact ⟨by simp [fitsB, *], (Below.refl _ _).alloc (Nat.le_refl _) _⟩
end Go.Proofs.YthgghgejndncnaaGreat
