/- 'laws.FnAdd': the walk, whole. -/
import Derived.Test.YthgghgejndncnaaLAdd
namespace Go.Proofs.Ythgghgejndncnaa
open Go.RowKit
set_option linter.unusedSimpArgs false
set_option linter.unusedVariables false

set_option maxHeartbeats 1000000 in
theorem fnAdd_any (k : Int) (id : List Int) (N : Int) (aA : Option Addr) (an ac : Nat) (ax : List Int) (P : Int) (dA : Option Addr) (dn dc : Nat) (dx : List Int) (w : World) (hid : id.length = 12) (hN : 0 ≤ N ∧ N ≤ 4294967295)
    (ha : ax.length = an) (hac : an ≤ ac) (hRa : Rd w aA ax) (hd : dx.length = dn) (hdc : dn ≤ dc) (hRd : Rd w dA dx) :
    Calls Try.prog 8 #[.int .i64 k, idV id, atV N aA an ac P dA dn dc] w fun e w' => e = .returned (.bool true) ∧ Below w.heap.size w w' := by
  rcases Bool.eq_false_or_eq_true (decide ((an : Int) ≤ 2147483647) && decide ((dn : Int) ≤ 2147483647)) with hsz | hsz
  · rcases Bool.eq_false_or_eq_true (fitsB k N an ax P dn) with hf | hf
    · by_cases h5 : k = 5 ∧ N = 1
      · obtain ⟨rfl, rfl⟩ := h5
        have HF := Lib.hid (And.intro hsz hf)
        have HB : Hid (Below w.heap.size w ((w.alloc (.cells (nums id).toArray 31)).alloc (.cells #[.int .u32 1, .slice aA an ac, .int .i64 P, .slice dA dn dc] 34))) := Lib.hid (below_then (below_alloc _ _) (below_alloc _ _))
        have HA0 : Hid (((w.alloc (.cells (nums id).toArray 31)).alloc (.cells #[.int .u32 1, .slice aA an ac, .int .i64 P, .slice dA dn dc] 34)).heap[w.heap.size + 1]? = some (.cells #[.int .u32 1, .slice aA an ac, .int .i64 P, .slice dA dn dc] 34 (0, 0))) := Lib.hid (heap_at _ _ _ (by simp))
        have HR := Lib.hid hRa
        have HL := Lib.hid ha
        clear hsz hf hRa ha
        go_enter Try.func8, Try.ntmps8
        go_wp2_with fail
        refine (zzFits1_any 1 aA an ac P dA dn dc _).mono ?_
        rintro e w1 ⟨rfl, hB1⟩
        rw [HF.out.1]
        have bA1 := blk_below HA0.out hB1
        obtain ⟨q0, q1, q2, q3⟩ := cells4 bA1
        have H1 := Lib.hid (And.intro (below_then HB.out hB1) bA1)
        clear hB1 bA1
        go_wp2_with fail
        refine (fits_any 5 1 aA an ac ax P dA dn dc _ HL.out hac ?_).mono ?_
        · exact HR.out.below H1.out.1
        rintro e w2 ⟨rfl, hB2⟩
        rw [HF.out.2]
        clear q0 q1 q2 q3
        obtain ⟨q0, q1, q2, q3⟩ := cells4 (blk_below H1.out.2 hB2)
        have H2 := Lib.hid (below_then H1.out.1 hB2)
        clear hB2
        go_wp2_with (go_at_call 11; refine (works_true _).mono ?_; rintro e w' ⟨rfl, rfl⟩)
        go_ret
        exact ⟨rfl, H2.out⟩
      · exact fnAdd_good k id N aA an ac ax P dA dn dc dx w hid hN ha hac hRa hd hdc hRd hsz hf h5
    · have HF := Lib.hid (And.intro hsz hf)
      have HB : Hid (Below w.heap.size w ((w.alloc (.cells (nums id).toArray 31)).alloc (.cells #[.int .u32 N, .slice aA an ac, .int .i64 P, .slice dA dn dc] 34))) := Lib.hid (below_then (below_alloc _ _) (below_alloc _ _))
      have HA0 : Hid (((w.alloc (.cells (nums id).toArray 31)).alloc (.cells #[.int .u32 N, .slice aA an ac, .int .i64 P, .slice dA dn dc] 34)).heap[w.heap.size + 1]? = some (.cells #[.int .u32 N, .slice aA an ac, .int .i64 P, .slice dA dn dc] 34 (0, 0))) := Lib.hid (heap_at _ _ _ (by simp))
      have HR := Lib.hid hRa
      have HL := Lib.hid ha
      clear hsz hf hRa ha
      go_enter Try.func8, Try.ntmps8
      go_wp2_with fail
      refine (zzFits1_any N aA an ac P dA dn dc _).mono ?_
      rintro e w1 ⟨rfl, hB1⟩
      rw [HF.out.1]
      have bA1 := blk_below HA0.out hB1
      obtain ⟨q0, q1, q2, q3⟩ := cells4 bA1
      have H1 := Lib.hid (And.intro (below_then HB.out hB1) bA1)
      clear hB1 bA1
      go_wp2_with fail
      refine (fits_any k N aA an ac ax P dA dn dc _ HL.out hac ?_).mono ?_
      · exact HR.out.below H1.out.1
      rintro e w2 ⟨rfl, hB2⟩
      rw [HF.out.2]
      clear q0 q1 q2 q3
      obtain ⟨q0, q1, q2, q3⟩ := cells4 (blk_below H1.out.2 hB2)
      have H2 := Lib.hid (below_then H1.out.1 hB2)
      clear hB2
      go_wp2_with (go_at_call 11; refine (works_true _).mono ?_; rintro e w' ⟨rfl, rfl⟩)
      go_ret
      exact ⟨rfl, H2.out⟩
  · have HF := Lib.hid hsz
    have HB : Hid (Below w.heap.size w ((w.alloc (.cells (nums id).toArray 31)).alloc (.cells #[.int .u32 N, .slice aA an ac, .int .i64 P, .slice dA dn dc] 34))) := Lib.hid (below_then (below_alloc _ _) (below_alloc _ _))
    clear hsz
    go_enter Try.func8, Try.ntmps8
    go_wp2_with fail
    refine (zzFits1_any N aA an ac P dA dn dc _).mono ?_
    rintro e w1 ⟨rfl, hB1⟩
    rw [HF.out]
    have H1 := Lib.hid (below_then HB.out hB1)
    clear hB1
    go_wp2_with fail
    go_ret
    exact ⟨rfl, H1.out⟩
end Go.Proofs.Ythgghgejndncnaa
