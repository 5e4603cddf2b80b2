/- '(*ChannelData).Decode': what it reads of a channel's bytes. -/
import Derived.Test.YthgghgejndncnaaMem
import Derived.Test.YthgghgejndncnaaBytes
import Derived.WalkSpells
import Derived.WalkLawsBesides
namespace Go.Proofs.Ythgghgejndncnaa
open Go.RowKit
set_option linter.unusedSimpArgs false
set_option linter.unusedVariables false

/-- too short -/
theorem cdDecode_short (g n c : Nat) (A : Option Addr) (w : World) (hn : n < 4) (hnc : n ≤ c)
    (hg : w.heap[g]? = some (.cells #[.slice none 0 0, .int .i64 0, .int .u16 0, .slice A n c] 56 (0, 0))) :
    Calls Try.prog 31 #[.pointer (some ⟨g, 0, none⟩)] w fun e w' => ∃ u x, e = .returned (.iface u x) ∧ Kept [g] w w' := by
  have c3 : w.cell? ⟨g, 3, none⟩ = some (.slice A n c) := (blk_cell hg 3).trans rfl
  clear hg
  go_enter Try.func31, Try.ntmps31
  go_wp2_with fail
  go_ret
  exact ⟨_, _, rfl, Kept.refl _ _⟩

/-- a number that is none of a channel -/
theorem cdDecode_number (g b o n c : Nat) (x0 x1 x2 x3 : Int) (w : World) (hn : 4 ≤ n) (hnc : n ≤ c) (hbg : g ≠ b)
    (r0 : 0 ≤ x0 ∧ x0 ≤ 255) (r1 : 0 ≤ x1 ∧ x1 ≤ 255) (r2 : 0 ≤ x2 ∧ x2 ≤ 255) (r3 : 0 ≤ x3 ∧ x3 ≤ 255)
    (h0 : w.cell? ⟨b, o, none⟩ = some (.int .u8 x0)) (h1 : w.cell? ⟨b, o + 1, none⟩ = some (.int .u8 x1)) (h2 : w.cell? ⟨b, o + 2, none⟩ = some (.int .u8 x2)) (h3 : w.cell? ⟨b, o + 2 + 1, none⟩ = some (.int .u8 x3))
    (hg : w.heap[g]? = some (.cells #[.slice none 0 0, .int .i64 0, .int .u16 0, .slice (some ⟨b, o, none⟩) n c] 56 (0, 0)))
    (hv : (decide (16384 ≤ x0 * 256 + x1) && decide (x0 * 256 + x1 ≤ 32767)) = false) :
    Calls Try.prog 31 #[.pointer (some ⟨g, 0, none⟩)] w fun e w' => ∃ u x, e = .returned (.iface u x) ∧ Kept [g] w w' := by
  have c0 : w.cell? ⟨g, 0, none⟩ = some (.slice none 0 0) := (blk_cell hg 0).trans rfl
  have c1 : w.cell? ⟨g, 1, none⟩ = some (.int .i64 0) := (blk_cell hg 1).trans rfl
  have c2 : w.cell? ⟨g, 2, none⟩ = some (.int .u16 0) := (blk_cell hg 2).trans rfl
  have c3 : w.cell? ⟨g, 3, none⟩ = some (.slice (some ⟨b, o, none⟩) n c) := (blk_cell hg 3).trans rfl
  have f0 := blk_free hg 0
  have f1 := blk_free hg 1
  have f2 := blk_free hg 2
  have n2 : ¬ c = 2 := by omega
  have n4 : (4 : Int) ≤ c := by omega
  have n5 : (2 : Int) ≤ c := by omega
  have n6 : (4 : Int) ≤ n := by omega
  have hbg' : ¬ b = g := fun h => hbg h.symm
  obtain ⟨A4, hcut, hA4, hB4⟩ := cut_from (P := Try.prog) Try.underlying24 info_u8 (some ⟨b, o, none⟩) n c 4 4 rfl hn hnc
  clear hg hA4 hB4
  go_enter Try.func31, Try.ntmps31
  go_wp2_with fail
  refine (tbe16_any _ _ _ _ x0 x1 _ (by omega) r0 r1 (by go_simp) (by go_simp)).mono ?_
  rintro e w' ⟨rfl, k, rfl⟩
  go_wp2_with fail
  refine (tbe16_any _ _ _ _ x2 x3 _ (by omega) r2 r3 (by go_simp) (by go_simp)).mono ?_
  rintro e w' ⟨rfl, k', rfl⟩
  go_wp2_with fail
  refine (cnValid_any _ _).mono ?_
  rintro e w' ⟨rfl, rfl⟩
  rw [hv]
  go_wp2_with fail
  go_ret
  exact ⟨_, _, rfl, (by repeat (first | exact Kept.refl _ _ | apply Kept.drewN | apply Kept.drew | (refine Kept.setCell ?_ (by simp) _) | apply Kept.alloc))⟩

/-- too few data -/
theorem cdDecode_length (g b o n c : Nat) (x0 x1 x2 x3 : Int) (w : World) (hn : 4 ≤ n) (hnc : n ≤ c) (hbg : g ≠ b)
    (r0 : 0 ≤ x0 ∧ x0 ≤ 255) (r1 : 0 ≤ x1 ∧ x1 ≤ 255) (r2 : 0 ≤ x2 ∧ x2 ≤ 255) (r3 : 0 ≤ x3 ∧ x3 ≤ 255)
    (h0 : w.cell? ⟨b, o, none⟩ = some (.int .u8 x0)) (h1 : w.cell? ⟨b, o + 1, none⟩ = some (.int .u8 x1)) (h2 : w.cell? ⟨b, o + 2, none⟩ = some (.int .u8 x2)) (h3 : w.cell? ⟨b, o + 2 + 1, none⟩ = some (.int .u8 x3))
    (hg : w.heap[g]? = some (.cells #[.slice none 0 0, .int .i64 0, .int .u16 0, .slice (some ⟨b, o, none⟩) n c] 56 (0, 0)))
    (hv : (decide (16384 ≤ x0 * 256 + x1) && decide (x0 * 256 + x1 ≤ 32767)) = true) (hlen : (n : Int) < 4 + (x2 * 256 + x3)) :
    Calls Try.prog 31 #[.pointer (some ⟨g, 0, none⟩)] w fun e w' => ∃ u x, e = .returned (.iface u x) ∧ Kept [g] w w' := by
  have c0 : w.cell? ⟨g, 0, none⟩ = some (.slice none 0 0) := (blk_cell hg 0).trans rfl
  have c1 : w.cell? ⟨g, 1, none⟩ = some (.int .i64 0) := (blk_cell hg 1).trans rfl
  have c2 : w.cell? ⟨g, 2, none⟩ = some (.int .u16 0) := (blk_cell hg 2).trans rfl
  have c3 : w.cell? ⟨g, 3, none⟩ = some (.slice (some ⟨b, o, none⟩) n c) := (blk_cell hg 3).trans rfl
  have f0 := blk_free hg 0
  have f1 := blk_free hg 1
  have f2 := blk_free hg 2
  have n2 : ¬ c = 2 := by omega
  have n4 : (4 : Int) ≤ c := by omega
  have n5 : (2 : Int) ≤ c := by omega
  have n6 : (4 : Int) ≤ n := by omega
  have hbg' : ¬ b = g := fun h => hbg h.symm
  have t0 : decide (x2 * 256 + x3 < ((n - 4 : Nat) : Int)) = false := decide_eq_false (by omega)
  have t1 : decide (((n - 4 : Nat) : Int) < x2 * 256 + x3) = true := decide_eq_true (by omega)
  obtain ⟨A4, hcut, hA4, hB4⟩ := cut_from (P := Try.prog) Try.underlying24 info_u8 (some ⟨b, o, none⟩) n c 4 4 rfl hn hnc
  clear hg hA4 hB4
  go_enter Try.func31, Try.ntmps31
  go_wp2_with fail
  refine (tbe16_any _ _ _ _ x0 x1 _ (by omega) r0 r1 (by go_simp) (by go_simp)).mono ?_
  rintro e w' ⟨rfl, k, rfl⟩
  go_wp2_with fail
  refine (tbe16_any _ _ _ _ x2 x3 _ (by omega) r2 r3 (by go_simp) (by go_simp)).mono ?_
  rintro e w' ⟨rfl, k', rfl⟩
  go_wp2_with fail
  refine (cnValid_any _ _).mono ?_
  rintro e w' ⟨rfl, rfl⟩
  rw [hv]
  go_wp2_with fail
  go_ret
  exact ⟨_, _, rfl, (by repeat (first | exact Kept.refl _ _ | apply Kept.drewN | apply Kept.drew | (refine Kept.setCell ?_ (by simp) _) | apply Kept.alloc))⟩

/-- what is there -/
theorem cdDecode_ok (g b o n c : Nat) (x0 x1 x2 x3 : Int) (w : World) (hn : 4 ≤ n) (hnc : n ≤ c) (hbg : g ≠ b)
    (r0 : 0 ≤ x0 ∧ x0 ≤ 255) (r1 : 0 ≤ x1 ∧ x1 ≤ 255) (r2 : 0 ≤ x2 ∧ x2 ≤ 255) (r3 : 0 ≤ x3 ∧ x3 ≤ 255)
    (h0 : w.cell? ⟨b, o, none⟩ = some (.int .u8 x0)) (h1 : w.cell? ⟨b, o + 1, none⟩ = some (.int .u8 x1)) (h2 : w.cell? ⟨b, o + 2, none⟩ = some (.int .u8 x2)) (h3 : w.cell? ⟨b, o + 2 + 1, none⟩ = some (.int .u8 x3))
    (hg : w.heap[g]? = some (.cells #[.slice none 0 0, .int .i64 0, .int .u16 0, .slice (some ⟨b, o, none⟩) n c] 56 (0, 0))) (raw : List Int) (hraw : raw.length = n) (hR : Rd w (some ⟨b, o, none⟩) raw)
    (hv : (decide (16384 ≤ x0 * 256 + x1) && decide (x0 * 256 + x1 ≤ 32767)) = true) (l : Nat) (hl : x2 * 256 + x3 = l) (hlen : 4 + l ≤ n) :
    Calls Try.prog 31 #[.pointer (some ⟨g, 0, none⟩)] w fun e w' => e = .returned .nilIface ∧ ∃ A' c',
      w'.heap[g]? = some (.cells #[.slice A' l c', .int .i64 l, .int .u16 (x0 * 256 + x1), .slice (some ⟨b, o, none⟩) n c] 56 (0, 0)) ∧ l ≤ c' ∧ Rd w' A' ((raw.drop 4).take l) ∧ (∀ a, A' = some a → a.block = b) ∧ Kept [g] w w' := by
  have c0 : w.cell? ⟨g, 0, none⟩ = some (.slice none 0 0) := (blk_cell hg 0).trans rfl
  have c1 : w.cell? ⟨g, 1, none⟩ = some (.int .i64 0) := (blk_cell hg 1).trans rfl
  have c2 : w.cell? ⟨g, 2, none⟩ = some (.int .u16 0) := (blk_cell hg 2).trans rfl
  have c3 : w.cell? ⟨g, 3, none⟩ = some (.slice (some ⟨b, o, none⟩) n c) := (blk_cell hg 3).trans rfl
  have f0 := blk_free hg 0
  have f1 := blk_free hg 1
  have f2 := blk_free hg 2
  have n2 : ¬ c = 2 := by omega
  have n4 : (4 : Int) ≤ c := by omega
  have n5 : (2 : Int) ≤ c := by omega
  have n6 : (4 : Int) ≤ n := by omega
  have hbg' : ¬ b = g := fun h => hbg h.symm
  obtain ⟨A4, hcut, hA4, hB4⟩ := cut_from (P := Try.prog) Try.underlying24 info_u8 (some ⟨b, o, none⟩) n c 4 4 rfl hn hnc
  have HG := Lib.hid hg
  have HR := Lib.hid (hA4 w raw hraw hR)
  have HB : Hid (∀ a, A4 = some a → a.block = b) := fun a ha => by
    obtain ⟨a0, h, hb⟩ := hB4 a ha
    injection h with h
    subst h
    exact hb.symm
  have HW := Lib.hid hraw
  have HL := Lib.hid hl
  clear hg hA4 hB4 hR hraw
  by_cases hlt : l < n - 4
  · have t0 : decide (x2 * 256 + x3 < ((n - 4 : Nat) : Int)) = true := decide_eq_true (by omega)
    have t1 : decide (((n - 4 : Nat) : Int) < x2 * 256 + x3) = false := decide_eq_false (by omega)
    obtain ⟨hto, hA5⟩ := cut_to (P := Try.prog) Try.underlying24 info_u8 A4 (n - 4) (c - 4) l (x2 * 256 + x3) hl (by omega) (by omega)
    have H5 := Lib.hid hA5
    clear hA5 hl
    go_enter Try.func31, Try.ntmps31
    go_wp2_with fail
    refine (tbe16_any _ _ _ _ x0 x1 _ (by omega) r0 r1 (by go_simp) (by go_simp)).mono ?_
    rintro e w' ⟨rfl, k, rfl⟩
    go_wp2_with fail
    refine (tbe16_any _ _ _ _ x2 x3 _ (by omega) r2 r3 (by go_simp) (by go_simp)).mono ?_
    rintro e w' ⟨rfl, k', rfl⟩
    go_wp2_with fail
    refine (cnValid_any _ _).mono ?_
    rintro e w' ⟨rfl, rfl⟩
    rw [hv]
    go_wp2_with fail
    go_ret
    have hk : x2 * 256 + x3 = (l : Int) := HL.out
    refine ⟨rfl, A4, c - 4, ?_, by omega, ((H5.out w _ (by simp [HW.out]) HR.out).kept (S := [g]) (by repeat (first | exact Kept.refl _ _ | apply Kept.drewN | apply Kept.drew | (refine Kept.setCell ?_ (by simp) _) | apply Kept.alloc)) (fun a ha => by rw [HB.out a ha]; simpa using hbg')), HB.out, (by repeat (first | exact Kept.refl _ _ | apply Kept.drewN | apply Kept.drew | (refine Kept.setCell ?_ (by simp) _) | apply Kept.alloc))⟩
    refine (blk_set (w := World.setCell _ _ _) (blk_set (w := World.setCell _ _ _) (blk_set (w := World.drewN _ _) (blk_set (w := w.drewN k) HG.out 2 _) 0 _) 1 _) 0 _).trans ?_
    rw [← hk]
    rfl
  · have t0 : decide (x2 * 256 + x3 < ((n - 4 : Nat) : Int)) = false := decide_eq_false (by omega)
    have t1 : decide (((n - 4 : Nat) : Int) < x2 * 256 + x3) = false := decide_eq_false (by omega)
    obtain rfl : l = n - 4 := by omega
    clear hl
    go_enter Try.func31, Try.ntmps31
    go_wp2_with fail
    refine (tbe16_any _ _ _ _ x0 x1 _ (by omega) r0 r1 (by go_simp) (by go_simp)).mono ?_
    rintro e w' ⟨rfl, k, rfl⟩
    go_wp2_with fail
    refine (tbe16_any _ _ _ _ x2 x3 _ (by omega) r2 r3 (by go_simp) (by go_simp)).mono ?_
    rintro e w' ⟨rfl, k', rfl⟩
    go_wp2_with fail
    refine (cnValid_any _ _).mono ?_
    rintro e w' ⟨rfl, rfl⟩
    rw [hv]
    go_wp2_with fail
    go_ret
    have hk : x2 * 256 + x3 = ((n - 4 : Nat) : Int) := HL.out
    refine ⟨rfl, A4, c - 4, ?_, by omega, ?_, HB.out, (by repeat (first | exact Kept.refl _ _ | apply Kept.drewN | apply Kept.drew | (refine Kept.setCell ?_ (by simp) _) | apply Kept.alloc))⟩
    · refine (blk_set (w := World.setCell _ _ _) (blk_set (w := World.drewN _ _) (blk_set (w := w.drewN k) HG.out 2 _) 0 _) 1 _).trans ?_
      rw [← hk]
      rfl
    · rw [List.take_of_length_le (by simp [HW.out])]
      exact HR.out.kept (S := [g]) (by repeat (first | exact Kept.refl _ _ | apply Kept.drewN | apply Kept.drew | (refine Kept.setCell ?_ (by simp) _) | apply Kept.alloc)) (fun a ha => by rw [HB.out a ha]; simpa using hbg')

end Go.Proofs.Ythgghgejndncnaa
