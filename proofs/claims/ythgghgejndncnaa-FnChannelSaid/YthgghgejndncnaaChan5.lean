/- 'IsChannelData', 'impl.IsChannel': do bytes look like channel data? -/
import Derived.Test.YthgghgejndncnaaChan3
import Derived.Handy
namespace Go.Proofs.Ythgghgejndncnaa
open Go.RowKit
set_option linter.unusedSimpArgs false
set_option linter.unusedVariables false

/-- bytes with a header -/
theorem isCD_long (b o n c : Nat) (x0 x1 x2 x3 : Int) (w : World) (hn : 4 ≤ n) (hnc : n ≤ c)
    (r0 : 0 ≤ x0 ∧ x0 ≤ 255) (r1 : 0 ≤ x1 ∧ x1 ≤ 255) (r2 : 0 ≤ x2 ∧ x2 ≤ 255) (r3 : 0 ≤ x3 ∧ x3 ≤ 255)
    (h0 : w.cell? ⟨b, o, none⟩ = some (.int .u8 x0)) (h1 : w.cell? ⟨b, o + 1, none⟩ = some (.int .u8 x1)) (h2 : w.cell? ⟨b, o + 2, none⟩ = some (.int .u8 x2)) (h3 : w.cell? ⟨b, o + 2 + 1, none⟩ = some (.int .u8 x3)) (B : Bool)
    (hB : B = (decide (x2 * 256 + x3 ≤ (n : Int) - 4) && (decide (16384 ≤ x0 * 256 + x1) && decide (x0 * 256 + x1 ≤ 32767)))) :
    Calls Try.prog 32 #[.slice (some ⟨b, o, none⟩) n c] w fun e w' => e = .returned (.bool B) ∧ ∃ k, w' = w.drewN k := by
  have n2 : ¬ c = 2 := by omega
  have n4 : (4 : Int) ≤ c := by omega
  have n6 : (4 : Int) ≤ n := by omega
  obtain ⟨A4, hcut, -, -⟩ := cut_from (P := Try.prog) Try.underlying24 info_u8 (some ⟨b, o, none⟩) n c 4 4 rfl hn hnc
  have HB := Lib.hid hB
  clear hB
  by_cases hlt : ((n - 4 : Nat) : Int) < x2 * 256 + x3
  · go_enter Try.func32, Try.ntmps32
    go_wp2_with fail
    go_quiet ((go_at_call 47; exact Calls.quiet_of (tbe16_any _ _ _ _ x2 x3 _ (by omega) r2 r3 (by go_simp) (by go_simp))))
    go_wp2_with fail
    go_ret
    refine ⟨?_, _, rfl⟩
    rw [HB.out, decide_eq_false (by omega : ¬ (x2 * 256 + x3 ≤ (n : Int) - 4))]
    rfl
  · have n0 : ¬ c = 0 := by omega
    have t0 : decide (((n - 4 : Nat) : Int) < x2 * 256 + x3) = false := decide_eq_false hlt
    go_enter Try.func32, Try.ntmps32
    go_wp2_with fail
    go_quiet ((go_at_call 47; exact Calls.quiet_of (tbe16_any _ _ _ _ x2 x3 _ (by omega) r2 r3 (by go_simp) (by go_simp))))
    go_wp2_with fail
    refine (tbe16_any _ _ _ _ x0 x1 _ (by omega) r0 r1 (by go_simp) (by go_simp)).mono ?_
    rintro e w' ⟨rfl, k, rfl⟩
    go_wp2_with fail
    refine (isCN_any _ _).mono ?_
    rintro e w' ⟨rfl, rfl⟩
    have hBt : Hid (B = (decide (16384 ≤ x0 * 256 + x1) && decide (x0 * 256 + x1 ≤ 32767))) := by
      show B = _
      rw [HB.out, decide_eq_true (by omega : (x2 * 256 + x3 ≤ (n : Int) - 4)), Bool.true_and]
    go_wp2_with fail
    go_ret
    exact ⟨by rw [hBt.out]; rfl, _, rfl⟩

/-- too few bytes -/
theorem isCD_short (n c : Nat) (A : Option Addr) (w : World) (hn : n < 4) :
    Calls Try.prog 32 #[.slice A n c] w fun e w' => e = .returned (.bool false) ∧ w = w' := by
  go_enter Try.func32, Try.ntmps32
  go_wp2_with fail
  go_ret
  exact ⟨rfl, rfl⟩

/-- bytes that look like channel data -/
def cdLooks (raw : List Int) : Bool := decide (4 ≤ raw.length) && (decide (cdLen raw ≤ (raw.length : Int) - 4) && (decide (16384 ≤ cdNum raw) && decide (cdNum raw ≤ 32767)))

/-- 'impl.IsChannel' -/
theorem isChannel_any (n c : Nat) (A : Option Addr) (raw : List Int) (w : World) (hn : raw.length = n) (hl : n ≤ 999999) (hb : Bys raw) (hR : Rd w A raw) :
    Calls Try.prog 14 #[.slice A n c] w fun e w' => e = .returned (.bool (cdLooks raw)) ∧ Below w.heap.size w w' := by
  have HN := Lib.hid hn
  have HR := Lib.hid hR
  have HBy := Lib.hid hb
  clear hn hR hb
  go_enter Try.func14, Try.ntmps14
  go_wp2_with fail
  refine (cloneB_any A n c raw _ HN.out hl HR.out).mono ?_
  rintro e w1 ⟨v1, rfl, hown, hB⟩
  obtain ⟨-, A1, c1, rfl, hc1, hcm1, hR1⟩ := own_rd hown
  have HR1 := Lib.hid hR1
  have HB := Lib.hid hB
  have HO := Lib.hid hown
  clear hR1 hown hB
  by_cases h4 : n < 4
  · go_wp2_with fail
    refine (isCD_short n c1 A1 w1 h4).mono ?_
    rintro e w' ⟨rfl, rfl⟩
    go_wp2_with fail
    go_ret
    refine ⟨?_, HB.out⟩
    have h := HN.out
    unfold cdLooks
    rw [decide_eq_false (by omega : ¬ 4 ≤ raw.length)]
    rfl
  · have h := HN.out
    obtain ⟨b, o, rfl, hc⟩ := HR1.out (fun e => by subst e; simp at h; omega)
    have k0 := hc 0 (by omega)
    have k1 := hc 1 (by omega)
    have k2 := hc 2 (by omega)
    have k3 := hc 3 (by omega)
    have HK := Lib.hid (And.intro k0 (And.intro k1 (And.intro k2 k3)))
    clear hc k0 k1 k2 k3 h
    go_wp2_with fail
    have by_ := HBy.out
    refine (isCD_long b o n c1 _ _ _ _ w1 (by omega) hc1 (by_.at_ 0) (by_.at_ 1) (by_.at_ 2) (by_.at_ 3) HK.out.1 HK.out.2.1 HK.out.2.2.1 HK.out.2.2.2 (cdLooks raw) ?_).mono ?_
    · unfold cdLooks cdLen cdNum
      rw [HN.out, decide_eq_true (by omega : 4 ≤ n), Bool.true_and]
    rintro e w' ⟨rfl, k, rfl⟩
    go_wp2_with fail
    go_ret
    exact ⟨rfl, ((Kept.of_below (S := []) HB.out).drewN k).toBelow⟩
end Go.Proofs.Ythgghgejndncnaa
