/- 'laws.FnCut': the walk: it returns true for every input, and turns nothing that was there. -/
import Derived.Test.YthgghgejndncnaaChan1
import Derived.Test.YthgghgejndncnaaChan4
import Derived.Test.YthgghgejndncnaaChan5
namespace Go.Proofs.Ythgghgejndncnaa
open Go.RowKit
set_option linter.unusedSimpArgs false
set_option linter.unusedVariables false

theorem getD_take (xs : List Int) (m j : Nat) (h : j < m) : (xs.take m).getD j 0 = xs.getD j 0 := by
  simp [List.getD_eq_getElem?_getD, List.getElem?_take, h]

theorem Bys.append {xs ys : List Int} (h : Bys xs) (k : Bys ys) : Bys (xs ++ ys) := fun x hx => by
  rcases List.mem_append.1 hx with h1 | h1
  · exact h x h1
  · exact k x h1
theorem Bys.take {xs : List Int} (h : Bys xs) (m : Nat) : Bys (xs.take m) := fun x hx => h x (List.mem_of_mem_take hx)
theorem Bys.drop {xs : List Int} (h : Bys xs) (m : Nat) : Bys (xs.drop m) := fun x hx => h x (List.mem_of_mem_drop hx)
theorem Bys.zeros (m : Nat) : Bys (List.replicate m 0) := fun x hx => by
  obtain rfl := (List.mem_replicate.1 hx).2
  omega

theorem chanB_bys (num : Int) (xs : List Int) (h0 : 0 ≤ num ∧ num ≤ 65535) (hl : xs.length ≤ 2000) (hb : Bys xs) : Bys (chanB num xs) := by
  unfold chanB
  refine ((Bys.append ?_ ?_).append hb).append (Bys.zeros _)
  · intro x hx; simp at hx; omega
  · intro x hx; simp at hx; omega
theorem chanB_0 (num : Int) (xs : List Int) : (chanB num xs).getD 0 0 = num / 256 := by simp [chanB]
theorem chanB_1 (num : Int) (xs : List Int) : (chanB num xs).getD 1 0 = num % 256 := by simp [chanB]
theorem chanB_2 (num : Int) (xs : List Int) : (chanB num xs).getD 2 0 = (xs.length : Int) / 256 := by simp [chanB]
theorem chanB_3 (num : Int) (xs : List Int) : (chanB num xs).getD 3 0 = (xs.length : Int) % 256 := by simp [chanB]
theorem chanB_num (num : Int) (xs : List Int) : cdNum (chanB num xs) = num := by unfold cdNum; rw [chanB_0, chanB_1]; omega
theorem chanB_len (num : Int) (xs : List Int) : cdLen (chanB num xs) = xs.length := by unfold cdLen; rw [chanB_2, chanB_3]; omega
theorem chanB_data (num : Int) (xs : List Int) : ((chanB num xs).drop 4).take xs.length = xs := by simp [chanB]

theorem chan_bad (num : Int) (xs : List Int) (h : ¬ (16384 ≤ num ∧ num ≤ 32767)) : cdBad (chanB num xs) := by
  unfold cdBad
  rw [chanB_num]
  exact .inr (.inl h)
theorem chan_cut (num : Int) (xs : List Int) (m : Nat) (h : m < 4 + xs.length) : cdBad ((chanB num xs).take m) := by
  have hl : ((chanB num xs).take m).length = m := by rw [List.length_take, chanB_length]; unfold pad4; omega
  unfold cdBad
  rw [hl]
  by_cases h4 : m < 4
  · exact .inl h4
  · refine .inr (.inr ?_)
    have : cdLen ((chanB num xs).take m) = xs.length := by
      unfold cdLen
      rw [getD_take _ _ _ (by omega), getD_take _ _ _ (by omega)]
      exact chanB_len num xs
    omega

set_option maxHeartbeats 1000000 in
theorem fnCut_any (num : Int) (A : Option Addr) (n c : Nat) (xs : List Int) (m : Int) (w : World) (hn : xs.length = n) (hnc : n ≤ c) (hb : Bys xs) (hR : Rd w A xs) :
    Calls Try.prog 4 #[.int .i64 num, .slice A n c, .int .i64 m] w fun e w' => e = .returned (.bool true) ∧ Below w.heap.size w w' := by
  have HN := Lib.hid hn
  have HR := Lib.hid hR
  have HBy := Lib.hid hb
  clear hn hR hb
  by_cases hbig : 2147483647 < (n : Int)
  · have d0 : decide (2147483647 < (n : Int)) = true := decide_eq_true hbig
    go_enter Try.func4, Try.ntmps4
    go_wp2_with fail
    go_ret
    exact ⟨rfl, Below.refl _ _⟩
  have d0 : decide (2147483647 < (n : Int)) = false := decide_eq_false hbig
  by_cases h1 : num < 0
  · have d1 : decide (num < 0) = true := decide_eq_true h1
    go_enter Try.func4, Try.ntmps4
    go_wp2_with (go_at_call 11; refine (works_true _).mono ?_; rintro e w' ⟨rfl, rfl⟩)
    go_ret
    exact ⟨rfl, Below.refl _ _⟩
  have d1 : decide (num < 0) = false := decide_eq_false h1
  by_cases h2 : 65535 < num
  · have d2 : decide (65535 < num) = true := decide_eq_true h2
    go_enter Try.func4, Try.ntmps4
    go_wp2_with (go_at_call 11; refine (works_true _).mono ?_; rintro e w' ⟨rfl, rfl⟩)
    go_ret
    exact ⟨rfl, Below.refl _ _⟩
  have d2 : decide (65535 < num) = false := decide_eq_false h2
  by_cases h3 : 2000 < (n : Int)
  · have d3 : decide (2000 < (n : Int)) = true := decide_eq_true h3
    go_enter Try.func4, Try.ntmps4
    go_wp2_with (go_at_call 11; refine (works_true _).mono ?_; rintro e w' ⟨rfl, rfl⟩)
    go_ret
    exact ⟨rfl, Below.refl _ _⟩
  have d3 : decide (2000 < (n : Int)) = false := decide_eq_false h3
  by_cases h4 : n = 0
  · subst h4
    go_enter Try.func4, Try.ntmps4
    go_wp2_with (go_at_call 11; refine (works_true _).mono ?_; rintro e w' ⟨rfl, rfl⟩)
    go_ret
    exact ⟨rfl, Below.refl _ _⟩
  have d4 : ((n : Int) == 0) = false := by rw [beq_eq_false_iff_ne]; omega
  by_cases hv : 16384 ≤ num ∧ num ≤ 32767
  · have hvb : (decide (16384 ≤ num) && decide (num ≤ 32767)) = true := by rw [Bool.and_eq_true, decide_eq_true_eq, decide_eq_true_eq]; exact hv
    have HV := Lib.hid hvb
    clear hvb
    have hlen : (chanB num xs).length ≤ 9999 := by rw [chanB_length]; unfold pad4; have := HN.out; omega
    have hlen2 : 4 + n ≤ (chanB num xs).length := by rw [chanB_length]; unfold pad4; have := HN.out; omega
    have HBB := Lib.hid (chanB_bys num xs (by omega) (by have := HN.out; omega) HBy.out)
    by_cases hm : m < 0 ∨ 4 + (n : Int) ≤ m
    · have hm2 : decide (m < 0) = true ∨ (decide (m < 0) = false ∧ decide (4 + (n : Int) ≤ m) = true) := by
        rcases Int.lt_or_le m 0 with h | h
        · exact .inl (decide_eq_true h)
        · exact .inr ⟨decide_eq_false (by omega), decide_eq_true (by omega)⟩
      rcases hm2 with t0 | ⟨t0, t1⟩
      all_goals
        go_enter Try.func4, Try.ntmps4
        go_wp2_with fail
        refine (sChannel_any num A n c xs _ (by omega) HN.out (by omega) HR.out).mono ?_
        rintro e w1 ⟨v1, rfl, hown, hB1⟩
        have HB1 := Lib.hid hB1
        clear hown hB1
        go_wp2_with fail
        refine (sValid_any _ _).mono ?_
        rintro e w' ⟨rfl, rfl⟩
        rw [HV.out]
        go_wp2_with (go_at_call 11; refine (works_true _).mono ?_; rintro e w' ⟨rfl, rfl⟩)
        go_ret
        exact ⟨rfl, HB1.out⟩
    · obtain ⟨k, rfl⟩ := Int.eq_ofNat_of_zero_le (a := m) (by omega)
      have t0 : decide ((k : Int) < 0) = false := decide_eq_false (by omega)
      have t1 : decide (4 + (n : Int) ≤ (k : Int)) = false := decide_eq_false (by omega)
      have HBad := Lib.hid (chan_cut num xs k (by have := HN.out; omega))
      go_enter Try.func4, Try.ntmps4
      go_wp2_with fail
      refine (sChannel_any num A n c xs _ (by omega) HN.out (by omega) HR.out).mono ?_
      rintro e w1 ⟨v1, rfl, hown, hB1⟩
      obtain ⟨hl1, A1, c1, rfl, hc1, hcm1, hR1⟩ := own_rd hown
      have HR1 := Lib.hid hR1
      have HB1 := Lib.hid hB1
      generalize hr : chanB num xs = raw at *
      generalize hrn : raw.length = rn at *
      have HM := Lib.hid hrn
      clear hr hrn hown hR1 hB1 hl1
      obtain ⟨hcut, hA2⟩ := cut_to (P := Try.prog) Try.underlying24 info_u8 A1 rn c1 k k rfl (by omega) hc1
      have H2 := Lib.hid hA2
      clear hA2
      go_wp2_with fail
      refine (sValid_any _ _).mono ?_
      rintro e w' ⟨rfl, rfl⟩
      rw [HV.out]
      go_wp2_with fail
      refine (parse_bad k c1 A1 (raw.take k) _ (by rw [List.length_take, HM.out]; omega) (by omega) (by omega) (HBB.out.take k) (H2.out _ _ HM.out HR1.out) HBad.out).mono ?_
      rintro e w2 ⟨rfl, hB2⟩
      have HB2 := Lib.hid hB2
      clear hB2
      go_wp2_with (go_at_call 11; refine (works_true _).mono ?_; rintro e w' ⟨rfl, rfl⟩)
      go_ret
      exact ⟨rfl, HB1.out.trans (HB2.out.mono HB1.out.size)⟩
  · have hvb : (decide (16384 ≤ num) && decide (num ≤ 32767)) = false := by rw [Bool.and_eq_false_iff, decide_eq_false_iff_not, decide_eq_false_iff_not]; omega
    have HV := Lib.hid hvb
    clear hvb
    go_enter Try.func4, Try.ntmps4
    go_wp2_with fail
    refine (sChannel_any num A n c xs _ (by omega) HN.out (by omega) HR.out).mono ?_
    rintro e w1 ⟨v1, rfl, hown, hB1⟩
    have hlen : (chanB num xs).length ≤ 9999 := by rw [chanB_length]; unfold pad4; have := HN.out; omega
    have HBB := Lib.hid (chanB_bys num xs (by omega) (by have := HN.out; omega) HBy.out)
    have HBad := Lib.hid (chan_bad num xs hv)
    have HLk : Hid (cdLooks (chanB num xs) = false) := by
      show cdLooks _ = false
      unfold cdLooks
      rw [chanB_num, HV.out, Bool.and_false, Bool.and_false]
    obtain ⟨hl1, A1, c1, rfl, hc1, hcm1, hR1⟩ := own_rd hown
    have HR1 := Lib.hid hR1
    have HB1 := Lib.hid hB1
    generalize hr : chanB num xs = raw at *
    generalize hm : raw.length = rn at *
    have HM := Lib.hid hm
    clear hr hm hown hR1 hB1 hl1
    go_wp2_with fail
    refine (sValid_any _ _).mono ?_
    rintro e w' ⟨rfl, rfl⟩
    rw [HV.out]
    go_wp2_with fail
    refine (parse_bad rn c1 A1 raw _ HM.out hc1 (by omega) HBB.out HR1.out HBad.out).mono ?_
    rintro e w2 ⟨rfl, hB2⟩
    have HB2 := Lib.hid hB2
    clear hB2
    go_wp2_with fail
    refine (isChannel_any rn c1 A1 raw _ HM.out (by omega) HBB.out (HR1.out.below HB2.out)).mono ?_
    rintro e w3 ⟨rfl, hB3⟩
    rw [HLk.out]
    have HB3 := Lib.hid hB3
    clear hB3
    go_wp2_with (go_at_call 11; refine (works_true _).mono ?_; rintro e w' ⟨rfl, rfl⟩)
    go_ret
    exact ⟨rfl, HB1.out.trans ((HB2.out.mono HB1.out.size).trans (HB3.out.mono (Nat.le_trans HB1.out.size HB2.out.size)))⟩
end Go.Proofs.Ythgghgejndncnaa
