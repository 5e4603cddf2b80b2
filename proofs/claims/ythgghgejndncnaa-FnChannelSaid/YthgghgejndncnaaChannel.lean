/- 'laws.FnChannel': the walk: it returns true for every input, and turns nothing that was there. -/
import Derived.Test.YthgghgejndncnaaCut
import Derived.Test.YthgghgejndncnaaEnc4
import Derived.Deep.RegionHeld
namespace Go.Proofs.Ythgghgejndncnaa
open Go.RowKit
set_option linter.unusedSimpArgs false
set_option linter.unusedVariables false

set_option maxRecDepth 100000 in
set_option maxHeartbeats 2000000 in
theorem fnChannel_any (num : Int) (A : Option Addr) (n c : Nat) (xs : List Int) (w : World) (hn : xs.length = n) (hnc : n ≤ c) (hb : Bys xs) (hR : Rd w A xs) :
    Calls Try.prog 5 #[.int .i64 num, .slice A n c] w fun e w' => e = .returned (.bool true) ∧ Below w.heap.size w w' := by
  have HN := Lib.hid hn
  have HR := Lib.hid hR
  have HBy := Lib.hid hb
  clear hn hR hb
  by_cases hbig : 2147483647 < (n : Int)
  · have d0 : decide (2147483647 < (n : Int)) = true := decide_eq_true hbig
    go_enter Try.func5, Try.ntmps5
    go_wp2_with fail
    go_ret
    exact ⟨rfl, Below.refl _ _⟩
  have d0 : decide (2147483647 < (n : Int)) = false := decide_eq_false hbig
  by_cases hv : ¬ (16384 ≤ num ∧ num ≤ 32767)
  · have hvb : (decide (16384 ≤ num) && decide (num ≤ 32767)) = false := by rw [Bool.and_eq_false_iff, decide_eq_false_iff_not, decide_eq_false_iff_not]; omega
    have HV := Lib.hid hvb
    clear hvb
    go_enter Try.func5, Try.ntmps5
    go_wp2_with fail
    refine (sValid_any _ _).mono ?_
    rintro e w' ⟨rfl, rfl⟩
    rw [HV.out]
    go_wp2_with (go_at_call 11; refine (works_true _).mono ?_; rintro e w' ⟨rfl, rfl⟩)
    go_ret
    exact ⟨rfl, Below.refl _ _⟩
  replace hv := Classical.not_not.1 hv
  have hvb : (decide (16384 ≤ num) && decide (num ≤ 32767)) = true := by rw [Bool.and_eq_true, decide_eq_true_eq, decide_eq_true_eq]; exact hv
  have HV := Lib.hid hvb
  clear hvb
  by_cases h3 : 2000 < (n : Int)
  · have d3 : decide (2000 < (n : Int)) = true := decide_eq_true h3
    go_enter Try.func5, Try.ntmps5
    go_wp2_with fail
    refine (sValid_any _ _).mono ?_
    rintro e w' ⟨rfl, rfl⟩
    rw [HV.out]
    go_wp2_with (go_at_call 11; refine (works_true _).mono ?_; rintro e w' ⟨rfl, rfl⟩)
    go_ret
    exact ⟨rfl, Below.refl _ _⟩
  have d3 : decide (2000 < (n : Int)) = false := decide_eq_false h3
  have hlen : (chanB num xs).length ≤ 9999 := by rw [chanB_length]; unfold pad4; have := HN.out; omega
  have hlen2 : 4 + n ≤ (chanB num xs).length := by rw [chanB_length]; unfold pad4; have := HN.out; omega
  have HBB := Lib.hid (chanB_bys num xs (by omega) (by have := HN.out; omega) HBy.out)
  have HNum := Lib.hid (chanB_num num xs)
  have HLen : Hid (cdLen (chanB num xs) = (n : Int)) := by
    show cdLen _ = _
    rw [chanB_len, HN.out]
  have HD : Hid (((chanB num xs).drop 4).take n = xs) := by
    have := chanB_data num xs
    rwa [HN.out] at this
  have HLk : Hid (cdLooks (chanB num xs) = true) := by
    show cdLooks _ = true
    unfold cdLooks
    rw [HNum.out, HLen.out, HV.out, decide_eq_true (by omega), decide_eq_true (by omega)]
    rfl
  go_enter Try.func5, Try.ntmps5
  go_wp2_with fail
  refine (sValid_any _ _).mono ?_
  rintro e w' ⟨rfl, rfl⟩
  rw [HV.out]
  go_wp2_with fail
  refine (sChannel_any num A n c xs _ (by omega) HN.out (by omega) HR.out).mono ?_
  rintro e w1 ⟨v1, rfl, hown, hB1⟩
  obtain ⟨hl1, A1, c1, rfl, hc1, hcm1, hR1⟩ := own_rd hown
  have HR1 := Lib.hid hR1
  have HB1 := Lib.hid hB1
  generalize hr : chanB num xs = raw at *
  generalize hrn : raw.length = rn at *
  have HM := Lib.hid hrn
  have HE := Lib.hid hr
  clear hr hrn hown hR1 hB1 hl1
  go_wp2_with fail
  refine (parse_good rn c1 A1 raw _ HM.out hc1 (by omega) HBB.out HR1.out (by omega) (by rw [HNum.out]; exact hv) n HLen.out (by omega)).mono ?_
  rintro e w2 ⟨v2, rfl, hown2, hB2⟩
  rw [HNum.out, HD.out] at *
  obtain ⟨-, A2, c2, rfl, hc2, hcm2, hR2⟩ := own_rd hown2
  have HR2 := Lib.hid hR2
  have HB2 := Lib.hid hB2
  have HR1' := Lib.hid (HR1.out.below hB2)
  have HR' := Lib.hid ((HR.out.below HB1.out).below hB2)
  clear hR2 hB2 hown2
  have q1 : (convert 24 9 (.slice A1 rn c1)).run Try.prog w2 = .ok (.string (strOfNums raw)) w2 := conv_rd Try.underlying24 Try.underlying5 Try.underlying9 HM.out HR1'.out
  have q2 : (convert 24 9 (.slice A2 n c2)).run Try.prog w2 = .ok (.string (strOfNums xs)) w2 := conv_rd Try.underlying24 Try.underlying5 Try.underlying9 HN.out HR2.out
  have q3 : (convert 24 9 (.slice A n c)).run Try.prog w2 = .ok (.string (strOfNums xs)) w2 := conv_rd Try.underlying24 Try.underlying5 Try.underlying9 HN.out HR'.out
  go_wp2_with fail
  go_region_held (fun w' => (convert 24 9 (.slice A1 rn c1)).run Try.prog w' = .ok (.string (strOfNums raw)) w' ∧ (convert 24 9 (.slice A2 n c2)).run Try.prog w' = .ok (.string (strOfNums xs)) w' ∧ (convert 24 9 (.slice A n c)).run Try.prog w' = .ok (.string (strOfNums xs)) w')
    (exact ⟨conv_rd Try.underlying24 Try.underlying5 Try.underlying9 HM.out HR1'.out, conv_rd Try.underlying24 Try.underlying5 Try.underlying9 HN.out HR2.out, conv_rd Try.underlying24 Try.underlying5 Try.underlying9 HN.out HR'.out⟩)
    (first
      | (go_at_call 15; refine (chanData_any n c A num xs _ (by omega) HN.out (by omega) ?_).mono ?_; exact HR'.out; rintro e w3 ⟨v3, rfl, hown3, hB3⟩; rw [HE.out, HM.out] at hown3; obtain ⟨-, A3, c3, rfl, -, -, hR3⟩ := own_rd hown3; have q4 : (convert 24 9 (.slice A3 rn c3)).run Try.prog w3 = .ok (.string (strOfNums raw)) w3 := conv_rd Try.underlying24 Try.underlying5 Try.underlying9 HM.out hR3; have HR1' := Lib.hid (Rd.below (Rd.drew HR1'.out) hB3); have HR2 := Lib.hid (Rd.below (Rd.drew HR2.out) hB3); have HR' := Lib.hid (Rd.below (Rd.drew HR'.out) hB3); have HB3 := Lib.hid hB3; clear hB3 hown3 hR3)
      | (go_at_call 14; refine (isChannel_any rn c1 A1 raw _ HM.out (by omega) HBB.out ?_).mono ?_; exact HR1'.out; rintro e w4 ⟨rfl, hB4⟩; rw [HLk.out]; have HR1' := Lib.hid (Rd.below HR1'.out hB4); have HR2 := Lib.hid (Rd.below HR2.out hB4); have HR' := Lib.hid (Rd.below HR'.out hB4); have HB4 := Lib.hid hB4; clear hB4)
      | (go_at_call 11; refine (works_true _).mono ?_; rintro e w' ⟨rfl, rfl⟩))
  rename_i hh
  clear hh
  have hB3 : Below w2.heap.size w2 w3 := ⟨HB3.out.os, HB3.out.tape, HB3.out.output, HB3.out.size, HB3.out.block⟩
  all_goals (go_wp2_with fail; go_ret; exact ⟨rfl, HB1.out.trans ((HB2.out.trans ((hB3.trans (HB4.out.mono hB3.size)).mono HB2.out.size)).mono HB1.out.size)⟩)
end Go.Proofs.Ythgghgejndncnaa
