/- GetFrom of data and tokens where the receiver is younger. -/
import Derived.Test.YthgghgejndncnaaGreatGetC
namespace Go.Proofs.YthgghgejndncnaaGreat
open Go.RowKit
set_option linter.unusedSimpArgs false
set_option linter.unusedVariables false

theorem gData_yes0 (g r : Nat) (v id : List Int) (w0 w : World) (h : MsgHas w0 g 19 v id) (hB0 : Below w0.heap.size w0 w) (hr : w.heap[r]? = some (.cells #[.slice none 0 0] 72 (0, 0))) (hr0 : w0.heap.size ≤ r) :
    Calls Tryz.prog 37 #[.pointer (some ⟨r, 0, none⟩), .pointer (some ⟨g, 0, none⟩)] w fun e w' => ∃ A n c, e = .returned .nilIface ∧ w'.heap[r]? = some (.cells #[.slice A n c] 72 (0, 0)) ∧ v.length = n ∧ n ≤ c ∧ Rd w' A v ∧ Kept [r] w w' := by
  by_cases hv : v = []
  · have h' : MsgHas w g 19 v id := by
      obtain ⟨M, C, L, rw_, ab, cap, A, n, c, l, hg0, hcap, i0, i1, i2, hn, hnc, hR0⟩ := h
      have kk := Kept.of_below (S := []) hB0
      exact ⟨M, C, L, rw_, ab, cap, A, n, c, l, hg0.below hB0, hcap, kk.cell i0 (by simp), kk.cell i1 (by simp), kk.cell i2 (by simp), hn, hnc, hR0.below hB0⟩
    refine (gData_yes g r v id w h' hr).mono ?_
    rintro e w' ⟨A, n, c, rfl, h1, h2, h3, w1, h4, h5, rfl⟩
    exact ⟨A, n, c, rfl, h1, h2, h3, by rw [hv]; exact Rd.nil _ _, (Kept.of_below h5).setCell (.inl (by simp)) _⟩
  have H := Lib.hid h
  have HR := Lib.hid hr
  have HB := Lib.hid hB0
  clear h hr hB0
  go_enter Tryz.func37, Tryz.ntmps37
  go_wp2_with (go_at_call 58; refine (mGet_yes0 g 19 _ id w0 _ H.out HB.out hv).mono ?_; rintro e w1 ⟨A, n, cc, rfl, hn, hnc, hR, hB, hAb⟩; have e0 : w1.cell? ⟨r, 0, none⟩ = some (.slice none 0 0) := (blk_cell (blk_below HR.out hB) 0).trans rfl; have f0 := blk_free (blk_below HR.out hB) 0)
  go_ret
  exact ⟨A, n, cc, rfl, blk_set (blk_below HR.out hB) 0 _, hn, hnc, hR.setCell _ _ (fun a e => by have := hAb a e; show a.block ≠ r; omega), (Kept.of_below hB).setCell (.inl (by simp)) _⟩

theorem gToken_yes0 (g r : Nat) (v id : List Int) (w0 w : World) (h : MsgHas w0 g 34 v id) (hv8 : v.length = 8) (hB0 : Below w0.heap.size w0 w) (hr : w.heap[r]? = some (.cells #[.slice none 0 0] 75 (0, 0))) (hr0 : w0.heap.size ≤ r) :
    Calls Tryz.prog 40 #[.pointer (some ⟨r, 0, none⟩), .pointer (some ⟨g, 0, none⟩)] w fun e w' => ∃ A n c, e = .returned .nilIface ∧ w'.heap[r]? = some (.cells #[.slice A n c] 75 (0, 0)) ∧ v.length = n ∧ n ≤ c ∧ Rd w' A v ∧ Kept [r] w w' := by
  by_cases hv : v = []
  · have h' : MsgHas w g 34 v id := by
      obtain ⟨M, C, L, rw_, ab, cap, A, n, c, l, hg0, hcap, i0, i1, i2, hn, hnc, hR0⟩ := h
      have kk := Kept.of_below (S := []) hB0
      exact ⟨M, C, L, rw_, ab, cap, A, n, c, l, hg0.below hB0, hcap, kk.cell i0 (by simp), kk.cell i1 (by simp), kk.cell i2 (by simp), hn, hnc, hR0.below hB0⟩
    refine (gToken_yes g r v id w h' hv8 hr).mono ?_
    rintro e w' ⟨A, n, c, rfl, h1, h2, h3, w1, h4, h5, rfl⟩
    exact ⟨A, n, c, rfl, h1, h2, h3, by rw [hv]; exact Rd.nil _ _, (Kept.of_below h5).setCell (.inl (by simp)) _⟩
  have H := Lib.hid h
  have HR := Lib.hid hr
  have HB := Lib.hid hB0
  clear h hr hB0
  go_enter Tryz.func40, Tryz.ntmps40
  go_wp2_with (first
    | (go_at_call 58; refine (mGet_yes0 g 34 _ id w0 _ H.out HB.out hv).mono ?_; rintro e w1 ⟨A, n, cc, rfl, hn, hnc, hR, hB, hAb⟩; obtain rfl : n = 8 := (by omega); have e0 : w1.cell? ⟨r, 0, none⟩ = some (.slice none 0 0) := (blk_cell (blk_below HR.out hB) 0).trans rfl; have f0 := blk_free (blk_below HR.out hB) 0)
    | (go_at_call 59; refine (checkSize_yes 34 8 8 _ rfl).mono ?_; rintro e w2 ⟨rfl, rfl⟩))
  go_ret
  exact ⟨A, 8, cc, rfl, blk_set (blk_below HR.out hB) 0 _, hn, hnc, hR.setCell _ _ (fun a e => by have := hAb a e; show a.block ≠ r; omega), (Kept.of_below hB).setCell (.inl (by simp)) _⟩

end Go.Proofs.YthgghgejndncnaaGreat
