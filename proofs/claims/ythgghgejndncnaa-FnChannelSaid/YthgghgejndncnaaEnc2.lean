/- '(*ChannelData).WriteHeader'. -/
import Derived.Test.YthgghgejndncnaaEnc1
import Derived.StillTailTactics
namespace Go.Proofs.Ythgghgejndncnaa
open Go.RowKit
set_option linter.unusedSimpArgs false
set_option linter.unusedVariables false

set_option maxRecDepth 100000 in
set_option maxHeartbeats 1000000 in
theorem cdWH_any (g n c : Nat) (A : Option Addr) (num : Int) (w : World) (hnum : 0 ≤ num ∧ num ≤ 65535) (hl : n ≤ 2000) (hg : w.heap[g]? = some (.cells #[.slice A n c, .int .i64 0, .int .u16 num, .slice none 0 0] 56 (0, 0))) :
    Calls Try.prog 48 #[.pointer (some ⟨g, 0, none⟩)] w fun e w' => e = .returned (.tuple #[]) ∧ ∃ g' cap,
      w'.heap[g]? = some (.cells #[.slice A n c, .int .i64 0, .int .u16 num, .slice (some ⟨g', 0, none⟩) 4 cap] 56 (0, 0)) ∧
      w'.ownsRow w.heap.size 5 1 (.slice (some ⟨g', 0, none⟩) 4 cap) 4 (nums [num / 256, num % 256, (n : Int) / 256, (n : Int) % 256]) ∧ Kept [g] w w' := by
  have c3 : w.cell? ⟨g, 3, none⟩ = some (.slice none 0 0) := (blk_cell hg 3).trans rfl
  have HG := Lib.hid hg
  clear hg
  go_enter Try.func48, Try.ntmps48
  go_wp2_with fail
  refine (cdgrow_any g num _ w HG.out).mono ?_
  rintro e w1 ⟨rfl, g', cap, cur, hb, hb', hcs, h4, hcm, hgg, hK⟩
  clear c3
  have c0 : w1.cell? ⟨g, 0, none⟩ = some (.slice A n c) := (blk_cell hb 0).trans rfl
  have c2 : w1.cell? ⟨g, 2, none⟩ = some (.int .u16 num) := (blk_cell hb 2).trans rfl
  have c3 : w1.cell? ⟨g, 3, none⟩ = some (.slice (some ⟨g', 0, none⟩) 4 cap) := (blk_cell hb 3).trans rfl
  obtain ⟨u0, k0⟩ : ∃ u, w1.cell? ⟨g', 0, none⟩ = some u := ⟨cur[0], (blk_cell hb' 0).trans (Array.getElem?_eq_getElem (by omega))⟩
  obtain ⟨u1, k1⟩ : ∃ u, w1.cell? ⟨g', 1, none⟩ = some u := ⟨cur[1], (blk_cell hb' 1).trans (Array.getElem?_eq_getElem (by omega))⟩
  obtain ⟨u2, k2⟩ : ∃ u, w1.cell? ⟨g', 2, none⟩ = some u := ⟨cur[2], (blk_cell hb' 2).trans (Array.getElem?_eq_getElem (by omega))⟩
  obtain ⟨u3, k3⟩ : ∃ u, w1.cell? ⟨g', 3, none⟩ = some u := ⟨cur[3], (blk_cell hb' 3).trans (Array.getElem?_eq_getElem (by omega))⟩
  have f0 := blk_free hb' 0
  have f1 := blk_free hb' 1
  have f2 := blk_free hb' 2
  have f3 := blk_free hb' 3
  have ngg : ¬ g = g' := by have := blk_lt HG.out; omega
  have ngg' : ¬ g' = g := fun h => ngg h.symm
  have HB := Lib.hid hb
  have HB' := Lib.hid hb'
  have HK := Lib.hid hK
  have HC := Lib.hid hcs
  clear hb hb' hK hcs
  have n4 : (4 : Int) ≤ cap := by omega
  have n2 : ¬ cap = 2 := by omega
  have n2' : (2 : Int) ≤ cap := by omega
  go_wp2_with fail
  go_still_tail 9, (by kernel_rfl)
  change wpList _ _ _ _ _ w1.drew
  go_wp2_with fail
  refine (tput16_any g' 0 2 cap num u0 u1 _ (by omega) hnum (by go_simp) (by go_simp) (by go_simp) (by go_simp)).mono ?_
  rintro e w2 ⟨rfl, hw2⟩
  have hb2 := blk_far (blk_far (w := w1.drew) HB.out (p := ⟨g', 0, none⟩) (by simpa using ngg) (.int .u8 (num / 256))) (p := ⟨g', 1, none⟩) (by simpa using ngg) (.int .u8 (num % 256))
  have hb2' := blk_set (blk_set (w := w1.drew) HB'.out 0 (.int .u8 (num / 256))) 1 (.int .u8 (num % 256))
  have hK2 : Kept [g] w _ := (HK.out.drew.setCell (p := ⟨g', 0, none⟩) (.inr hgg) (.int .u8 (num / 256))).setCell (p := ⟨g', 1, none⟩) (.inr hgg) (.int .u8 (num % 256))
  rw [← hw2] at hb2 hb2' hK2
  have c0' : w2.cell? ⟨g, 0, none⟩ = some (.slice A n c) := (blk_cell hb2 0).trans rfl
  have c3' : w2.cell? ⟨g, 3, none⟩ = some (.slice (some ⟨g', 0, none⟩) 4 cap) := (blk_cell hb2 3).trans rfl
  have k2' : w2.cell? ⟨g', 2, none⟩ = some u2 := by rw [hw2]; go_simp
  have k3' : w2.cell? ⟨g', 3, none⟩ = some u3 := by rw [hw2]; go_simp
  have f2' := blk_free hb2' 2
  have f3' := blk_free hb2' 3
  have HB2 := Lib.hid hb2
  have HB2' := Lib.hid hb2'
  have HK2 := Lib.hid hK2
  clear hw2 hb2 hb2' hK2 c0 c2 c3 k0 k1 k2 k3 f0 f1 f2 f3
  go_wp2_with fail
  go_still_tail 11, (by kernel_rfl)
  change wpList _ _ _ _ _ w2.drew
  go_wp2_with fail
  refine (tput16_any g' 2 2 (cap - 2) n u2 u3 _ (by omega) (by omega) (by go_simp) (by go_simp) (by go_simp) (by go_simp)).mono ?_
  rintro e w3 ⟨rfl, hw3⟩
  have hb3 := blk_far (blk_far (w := w2.drew) HB2.out (p := ⟨g', 2, none⟩) (by simpa using ngg) (.int .u8 ((n : Int) / 256))) (p := ⟨g', 3, none⟩) (by simpa using ngg) (.int .u8 ((n : Int) % 256))
  have hb3' := blk_set (blk_set (w := w2.drew) HB2'.out 2 (.int .u8 ((n : Int) / 256))) 3 (.int .u8 ((n : Int) % 256))
  have hK3 : Kept [g] w _ := (HK2.out.drew.setCell (p := ⟨g', 2, none⟩) (.inr hgg) (.int .u8 ((n : Int) / 256))).setCell (p := ⟨g', 3, none⟩) (.inr hgg) (.int .u8 ((n : Int) % 256))
  rw [← hw3] at hb3 hb3' hK3
  have HB3 := Lib.hid hb3
  have HB3' := Lib.hid hb3'
  have HK3 := Lib.hid hK3
  clear hw3 hb3 hb3' hK3
  go_wp2_with fail
  go_end0
  refine ⟨rfl, g', cap, HB3.out, ⟨by simp [nums], .inr ⟨g', cap, _, rfl, hgg, HB3'.out, h4, hcm, by simp [HC.out], ?_⟩⟩, HK3.out⟩
  exact take4_set cur (by rw [HC.out]; exact h4) _ _ _ _
end Go.Proofs.Ythgghgejndncnaa
