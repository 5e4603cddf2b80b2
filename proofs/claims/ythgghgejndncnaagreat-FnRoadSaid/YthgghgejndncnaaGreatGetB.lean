/- GetFrom of data, tokens, even ports and 'don't fragment'. -/
import Derived.Test.YthgghgejndncnaaGreatGetA
namespace Go.Proofs.YthgghgejndncnaaGreat
open Go.RowKit
set_option linter.unusedSimpArgs false
set_option linter.unusedVariables false

theorem gData_yes (g r : Nat) (v id : List Int) (w : World) (h : MsgHas w g 19 v id) (hr : w.heap[r]? = some (.cells #[.slice none 0 0] 72 (0, 0))) :
    Calls Tryz.prog 37 #[.pointer (some ⟨r, 0, none⟩), .pointer (some ⟨g, 0, none⟩)] w fun e w' => ∃ A n c, e = .returned .nilIface ∧ w'.heap[r]? = some (.cells #[.slice A n c] 72 (0, 0)) ∧ v.length = n ∧ n ≤ c ∧ (∃ w1, Rd w1 A v ∧ Below w.heap.size w w1 ∧ w' = w1.setCell ⟨r, 0, none⟩ (.slice A n c)) := by
  have H := Lib.hid h
  have HR := Lib.hid hr
  clear h hr
  go_enter Tryz.func37, Tryz.ntmps37
  go_wp2_with (go_at_call 58; refine (mGet_yes g 19 _ id _ H.out).mono ?_; rintro e w1 ⟨A, n, cc, rfl, hn, hnc, hR, hB⟩; have e0 : w1.cell? ⟨r, 0, none⟩ = some (.slice none 0 0) := (blk_cell (blk_below HR.out hB) 0).trans rfl; have f0 := blk_free (blk_below HR.out hB) 0)
  go_ret
  exact ⟨A, n, cc, rfl, blk_set (blk_below HR.out hB) 0 _, hn, hnc, w1, hR, hB, rfl⟩

theorem gToken_yes (g r : Nat) (v id : List Int) (w : World) (h : MsgHas w g 34 v id) (hv : v.length = 8) (hr : w.heap[r]? = some (.cells #[.slice none 0 0] 75 (0, 0))) :
    Calls Tryz.prog 40 #[.pointer (some ⟨r, 0, none⟩), .pointer (some ⟨g, 0, none⟩)] w fun e w' => ∃ A n c, e = .returned .nilIface ∧ w'.heap[r]? = some (.cells #[.slice A n c] 75 (0, 0)) ∧ v.length = n ∧ n ≤ c ∧ (∃ w1, Rd w1 A v ∧ Below w.heap.size w w1 ∧ w' = w1.setCell ⟨r, 0, none⟩ (.slice A n c)) := by
  have H := Lib.hid h
  have HR := Lib.hid hr
  clear h hr
  go_enter Tryz.func40, Tryz.ntmps40
  go_wp2_with (first
    | (go_at_call 58; refine (mGet_yes g 34 _ id _ H.out).mono ?_; rintro e w1 ⟨A, n, cc, rfl, hn, hnc, hR, hB⟩; obtain rfl : n = 8 := by omega)
    | (go_at_call 59; refine (checkSize_yes 34 8 8 _ rfl).mono ?_; rintro e w2 ⟨rfl, rfl⟩; have e0 : w1.cell? ⟨r, 0, none⟩ = some (.slice none 0 0) := (blk_cell (blk_below HR.out hB) 0).trans rfl; have f0 := blk_free (blk_below HR.out hB) 0))
  go_ret
  exact ⟨A, 8, cc, rfl, blk_set (blk_below HR.out hB) 0 _, hn, hnc, w1, hR, hB, rfl⟩

theorem gFragment_yes (g r : Nat) (id : List Int) (w : World) (h : MsgHas w g 26 [] id) :
    Calls Tryz.prog 44 #[.pointer (some ⟨r, 0, none⟩), .pointer (some ⟨g, 0, none⟩)] w fun e w' => e = .returned .nilIface ∧ Below w.heap.size w w' := by
  have H := Lib.hid h
  clear h
  go_enter Tryz.func44, Tryz.ntmps44
  go_wp2_with (first
    | (go_at_call 58; refine (mGet_yes g 26 _ id _ H.out).mono ?_; rintro e w1 ⟨A, n, cc, rfl, hn, hnc, hR, hB⟩; obtain rfl : n = 0 := by simpa using hn.symm)
    | (go_at_call 59; refine (checkSize_yes 26 0 0 _ rfl).mono ?_; rintro e w2 ⟨rfl, rfl⟩))
  go_ret
  exact ⟨rfl, hB⟩

set_option maxHeartbeats 1000000 in
theorem gEven_yes (g r : Nat) (a : Int) (id : List Int) (w : World) (h : MsgHas w g 24 [a] id) (ha : a = 0 ∨ a = 128 ∨ a = 255) (hr : w.heap[r]? = some (.cells #[.bool false] 74 (0, 0))) :
    Calls Tryz.prog 39 #[.pointer (some ⟨r, 0, none⟩), .pointer (some ⟨g, 0, none⟩)] w fun e w' => e = .returned .nilIface ∧ w'.heap[r]? = some (.cells #[.bool (decide (0 < a))] 74 (0, 0)) ∧ Kept [r] w w' := by
  have H := Lib.hid h
  have HR := Lib.hid hr
  clear h hr
  have hbits : bits .and .u8 a 255 = a := by rcases ha with rfl | rfl | rfl <;> rfl
  rcases Bool.eq_false_or_eq_true (decide (0 < a)) with hb | hb
  · go_enter Tryz.func39, Tryz.ntmps39
    go_wp2_with (first
      | (go_at_call 58; refine (mGet_yes g 24 _ id _ H.out).mono ?_; rintro e w1 ⟨A, n, cc, rfl, hn, hnc, hR, hB⟩; obtain rfl : n = 1 := by simpa using hn.symm)
      | (go_at_call 59; refine (checkSize_yes 24 1 1 _ rfl).mono ?_; rintro e w2 ⟨rfl, rfl⟩; obtain ⟨bb, oo, rfl, hcell⟩ := hR (by simp); have x0 := hcell 0 (by simp); simp only [Nat.add_zero, List.getD_cons_zero, List.getD_cons_succ] at x0; have HB := Lib.hid hB; have e0 : w1.cell? ⟨r, 0, none⟩ = some (.bool false) := (blk_cell (blk_below HR.out hB) 0).trans rfl; have f0 := blk_free (blk_below HR.out hB) 0; clear hR hcell hB hn))
    go_ret
    exact ⟨rfl, by rw [hb]; exact blk_set (blk_below HR.out HB.out) 0 _, (Kept.of_below HB.out).setCell (.inl (by simp)) _⟩
  · go_enter Tryz.func39, Tryz.ntmps39
    go_wp2_with (first
      | (go_at_call 58; refine (mGet_yes g 24 _ id _ H.out).mono ?_; rintro e w1 ⟨A, n, cc, rfl, hn, hnc, hR, hB⟩; obtain rfl : n = 1 := by simpa using hn.symm)
      | (go_at_call 59; refine (checkSize_yes 24 1 1 _ rfl).mono ?_; rintro e w2 ⟨rfl, rfl⟩; obtain ⟨bb, oo, rfl, hcell⟩ := hR (by simp); have x0 := hcell 0 (by simp); simp only [Nat.add_zero, List.getD_cons_zero, List.getD_cons_succ] at x0; have HB := Lib.hid hB; have e0 : w1.cell? ⟨r, 0, none⟩ = some (.bool false) := (blk_cell (blk_below HR.out hB) 0).trans rfl; have f0 := blk_free (blk_below HR.out hB) 0; clear hR hcell hB hn))
    go_ret
    exact ⟨rfl, by rw [hb]; exact blk_below HR.out HB.out, Kept.of_below HB.out⟩
end Go.Proofs.YthgghgejndncnaaGreat
