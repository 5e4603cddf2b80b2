/- 'isZeros', 'isIPv4'; what AddToAs leans on. -/
import Derived.Test.YthgghgejndncnaaGreatAdds
import Derived.Test.YthgghgejndncnaaGreatM3
namespace Go.Proofs.YthgghgejndncnaaGreat
open Go.RowKit
set_option linter.unusedSimpArgs false
set_option linter.unusedVariables false

/-- all noughts -/
def zerosB (xs : List Int) : Bool := xs.all fun x => decide (x = 0)
theorem zerosB_true {xs : List Int} (h : ∀ j, j < xs.length → xs.getD j 0 = 0) : zerosB xs = true := by
  simp only [zerosB, List.all_eq_true, decide_eq_true_eq]
  intro x hx
  obtain ⟨j, hj, rfl⟩ := List.mem_iff_getElem.1 hx
  have := h j hj
  simpa [List.getD_eq_getElem?_getD, List.getElem?_eq_getElem hj] using this
theorem zerosB_false {xs : List Int} {j : Nat} (hj : j < xs.length) (h : xs.getD j 0 ≠ 0) : zerosB xs = false := by
  rw [← Bool.not_eq_true]
  simp only [zerosB, List.all_eq_true, decide_eq_true_eq]
  intro hh
  refine h ?_
  have := hh xs[j] (List.getElem_mem hj)
  simpa [List.getD_eq_getElem?_getD, List.getElem?_eq_getElem hj] using this
theorem zerosB_at {xs : List Int} (h : zerosB xs = true) (j : Nat) (hj : j < xs.length) : xs.getD j 0 = 0 := by
  simp only [zerosB, List.all_eq_true, decide_eq_true_eq] at h
  simpa [List.getD_eq_getElem?_getD, List.getElem?_eq_getElem hj] using h xs[j] (List.getElem_mem hj)

set_option maxHeartbeats 1000000 in
theorem isZeros_any (b o n c : Nat) (xs : List Int) (w : World) (hn : xs.length = n) (hl : n ≤ 1000) (hc : ∀ j, j < xs.length → w.cell? ⟨b, o + j, none⟩ = some (.int .u8 (xs.getD j 0))) :
    Calls Tryz.prog 102 #[.slice (some ⟨b, o, none⟩) n c] w fun e w' => e = .returned (.bool (zerosB xs)) ∧ w = w' := by
  have HC := Lib.hid hc
  have HN := Lib.hid hn
  clear hc hn
  go_enter Tryz.func102, Tryz.ntmps102
  go_wp2_with fail
  go_loopg [6] n (fun kq v6 wr => ∃ i : Nat, kq + i = n ∧ v6 = .int .i64 i ∧ w = wr ∧ Hid (∀ j, j < i → xs.getD j 0 = 0))
  case atStart => exact ⟨0, rfl, rfl, rfl, Lib.hid (by omega)⟩
  case round =>
    obtain ⟨i, hi, rfl, rfl, hd⟩ := hrel
    by_cases hlt : i < n
    · have t0 : decide ((i : Int) < n) = true := decide_eq_true (by omega)
      have t1 : (i : Int) < n := by omega
      have hci := HC.out i (by have := HN.out; omega)
      by_cases hx : xs.getD i 0 = 0
      · have t3 : (xs.getD i 0 != 0) = false := bne_eq_false_iff_eq.2 hx
        have hd' : Hid (∀ j, j < i + 1 → xs.getD j 0 = 0) := Lib.hid (fun j hj => by
          rcases Nat.lt_or_ge j i with h | h
          · exact hd.out j h
          · obtain rfl : j = i := by omega
            exact hx)
        generalize xs.getD i 0 = x at *
        go_wp2_with fail
        go_roundg (gk - 1)
        case measure => omega
        case rel => exact ⟨i + 1, by omega, by simp, rfl, hd'⟩
      · have t3 : (xs.getD i 0 != 0) = true := bne_iff_ne.2 hx
        have HM := zerosB_false (xs := xs) (j := i) (by have := HN.out; omega) hx
        generalize xs.getD i 0 = x at *
        go_wp2_with fail
        go_ret
        exact ⟨by rw [HM]; rfl, rfl⟩
    · have t0 : decide ((i : Int) < n) = false := decide_eq_false (by omega)
      have HM := zerosB_true (xs := xs) (fun j hj => hd.out j (by have := HN.out; omega))
      go_wp2_with fail
      go_ret
      exact ⟨by rw [HM]; rfl, rfl⟩

theorem mapped_of {xs : List Int} (hn : xs.length = 16) (h0 : zerosB (xs.take 10) = true) (h1 : xs.getD 10 0 = 255) (h2 : xs.getD 11 0 = 255) : mappedB xs = true := by
  refine mappedB_true (fun j hj => ?_)
  rcases Nat.lt_or_ge j 10 with h | h
  · rw [want_lo h, ← getD_take xs 10 j h]
    exact zerosB_at h0 j (by simp; omega)
  · rw [want_hi (by omega)]
    have : j = 10 ∨ j = 11 := by omega
    rcases this with rfl | rfl
    · exact h1
    · exact h2

set_option maxRecDepth 100000 in
set_option maxHeartbeats 1000000 in
theorem isIPv4_no (b o c : Nat) (xs : List Int) (w : World) (hn : xs.length = 16) (hcap : 16 ≤ c) (hm : mappedB xs = false) (hR : Rd w (some ⟨b, o, none⟩) xs) :
    Calls Tryz.prog 101 #[.slice (some ⟨b, o, none⟩) 16 c] w fun e w' => e = .returned (.bool false) ∧ w = w' := by
  have hc : ∀ j, j < 16 → w.cell? ⟨b, o + j, none⟩ = some (.int .u8 (xs.getD j 0)) := fun j hj => by
    obtain ⟨b', o', e, h⟩ := hR.at_ (j := j) (by omega)
    injection e with e; injection e with e1 e2; subst e1 e2; exact h
  have x10 := hc 10 (by omega)
  have x11 := hc 11 (by omega)
  have HZ : Hid (∀ j, j < (xs.take 10).length → w.cell? ⟨b, o + j, none⟩ = some (.int .u8 ((xs.take 10).getD j 0))) := Lib.hid (fun j hj => by
    have hj' : j < 10 := by simp at hj; omega
    rw [getD_take xs 10 j hj']
    exact hc j (by omega))
  have HN : Hid ((xs.take 10).length = 10) := Lib.hid (by simp; omega)
  have l10 : (10 : Int) ≤ c := by omega
  rcases Bool.eq_false_or_eq_true (zerosB (xs.take 10)) with hz | hz
  · by_cases h1 : xs.getD 10 0 = 255
    · by_cases h2 : xs.getD 11 0 = 255
      · rw [mapped_of hn hz h1 h2] at hm
        cases hm
      · have t1 : (xs.getD 10 0 == 255) = true := beq_iff_eq.2 h1
        have t2 : (xs.getD 11 0 == 255) = false := beq_eq_false_iff_ne.2 h2
        have HZZ := Lib.hid hz
        clear hc hR hn hm hz h1 h2
        generalize xs.getD 10 0 = y10 at *
        generalize xs.getD 11 0 = y11 at *
        go_enter Tryz.func101, Tryz.ntmps101
        go_wp2_with (go_at_call 102; refine (isZeros_any b o 10 _ (xs.take 10) _ HN.out (by omega) HZ.out).mono ?_; rintro e w' ⟨rfl, rfl⟩; rw [HZZ.out])
        go_ret
        exact ⟨rfl, rfl⟩
    · have t1 : (xs.getD 10 0 == 255) = false := beq_eq_false_iff_ne.2 h1
      have HZZ := Lib.hid hz
      clear hc hR hn hm hz h1
      generalize xs.getD 10 0 = y10 at *
      generalize xs.getD 11 0 = y11 at *
      go_enter Tryz.func101, Tryz.ntmps101
      go_wp2_with (go_at_call 102; refine (isZeros_any b o 10 _ (xs.take 10) _ HN.out (by omega) HZ.out).mono ?_; rintro e w' ⟨rfl, rfl⟩; rw [HZZ.out])
      go_ret
      exact ⟨rfl, rfl⟩
  · have HZZ := Lib.hid hz
    clear hc hR hn hm hz
    generalize xs.getD 10 0 = y10 at *
    generalize xs.getD 11 0 = y11 at *
    go_enter Tryz.func101, Tryz.ntmps101
    go_wp2_with (go_at_call 102; refine (isZeros_any b o 10 _ (xs.take 10) _ HN.out (by omega) HZ.out).mono ?_; rintro e w' ⟨rfl, rfl⟩; rw [HZZ.out])
    go_ret
    exact ⟨rfl, rfl⟩

theorem port_fwd (P : Int) (hP : 0 ≤ P ∧ P ≤ 65535) : bits .xor .i64 P 8466 = x8 (P / 256 % 256) 33 * 256 + x8 (P % 256) 18 := by
  obtain ⟨p, rfl⟩ := Int.eq_ofNat_of_zero_le hP.1
  have h1 : x8 ((p : Int) / 256 % 256) 33 = ((p / 256 % 256 ^^^ 33 : Nat) : Int) := by
    rw [x8_nat _ _ (by omega) (by omega)]
    congr 2
  have h2 : x8 ((p : Int) % 256) 18 = ((p % 256 ^^^ 18 : Nat) : Int) := by
    rw [x8_nat _ _ (by omega) (by omega)]
    congr 2
  have e : (p : Int) = ((p / 256 % 256 * 256 + p % 256 : Nat) : Int) := by omega
  rw [h1, h2]
  conv => lhs; rw [e]
  rw [show (8466 : Int) = ((33 * 256 + 18 : Nat) : Int) from rfl, i64_xor_nat _ _ (by omega) (by omega), xor_two _ _ _ _ (by omega) (by omega)]
  omega

theorem rd_prefix {w : World} {A : Option Addr} {xs ys : List Int} (h : Rd w A (xs ++ ys)) : Rd w A xs := fun hne => by
  obtain ⟨b, o, e, hc⟩ := h (by simp [hne])
  refine ⟨b, o, e, fun j hj => ?_⟩
  rw [hc j (by simp; omega)]
  simp [List.getD_eq_getElem?_getD, List.getElem?_append_left hj]
end Go.Proofs.YthgghgejndncnaaGreat
