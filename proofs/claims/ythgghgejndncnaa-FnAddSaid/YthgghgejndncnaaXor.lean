/- 'xorBytes'. -/
import Derived.Test.YthgghgejndncnaaGetB
import Derived.Deep.RegionHeld
import Derived.Deep.Cut
import Derived.Deep.LoopGhost
namespace Go.Proofs.Ythgghgejndncnaa
open Go.RowKit
set_option linter.unusedSimpArgs false
set_option linter.unusedVariables false

theorem set_mid {α : Type} (L X : List α) (od i : Nat) (v : α) (hX : X.length = i) (h : od + i < L.length) :
    (L.take od ++ X ++ L.drop (od + i)).set (od + i) v = L.take od ++ (X ++ [v]) ++ L.drop (od + (i + 1)) := by
  have h1 : (L.take od ++ X).length = od + i := by simp [hX]; omega
  rw [List.set_append_right (od + i) v (by omega), h1, Nat.sub_self]
  rw [List.drop_eq_getElem_cons h, List.set_cons_zero]
  simp [Nat.add_assoc]

set_option maxHeartbeats 2000000 in
theorem xorBytes_any (d od dn dc n1 c1 n2 c2 : Nat) (A B : Option Addr) (xs ys : List Int) (L : List Value) (T : TypeId) (w : World) (hd : w.heap[d]? = some (.cells L.toArray T (0, 0))) (h1 : xs.length = n1) (h2 : ys.length = n2) (h12 : n1 ≤ n2) (hdn : n1 ≤ dn) (hdc : dn ≤ dc) (hod : od + n1 ≤ L.length) (hsm : n2 ≤ 1000)
    (hA : Rd w A xs) (hB : Rd w B ys) (hAd : ∀ a, A = some a → a.block ≠ d) (hBd : ∀ a, B = some a → a.block ≠ d) (hpos : 0 < n1) :
    Calls Try.prog 87 #[.slice (some ⟨d, od, none⟩) dn dc, .slice A n1 c1, .slice B n2 c2] w fun e w' => e = .returned (.int .i64 n1) ∧ w'.heap[d]? = some (.cells (L.take od ++ nums (xorL xs ys) ++ L.drop (od + n1)).toArray T (0, 0)) ∧ Kept [d] w w' := by
  obtain ⟨ba, oa, rfl, -⟩ := hA (by intro e; subst e; simp at h1; omega)
  obtain ⟨bb, ob, rfl, -⟩ := hB (by intro e; subst e; simp at h2; omega)
  have HA := Lib.hid hA
  have HB := Lib.hid hB
  have HD := Lib.hid hd
  have H1 := Lib.hid h1
  have H2 := Lib.hid h2
  have had : ba ≠ d := hAd _ rfl
  have hbd : bb ≠ d := hBd _ rfl
  have hmin : (n1 : Int) ≤ n2 := by omega
  clear hA hB hd h1 h2 hAd hBd
  go_enter Try.func87, Try.ntmps87
  go_wp2_with fail
  go_loopg [8] n1 (fun kq v8 wr => ∃ i : Nat, kq + i = n1 ∧ v8 = .int .i64 i ∧ Hid (wr.heap[d]? = some (.cells (L.take od ++ nums ((xorL xs ys).take i) ++ L.drop (od + i)).toArray T (0, 0))) ∧ Hid (Kept [d] w wr))
  case atStart => exact ⟨0, rfl, rfl, Lib.hid (by simpa [nums] using HD.out), Lib.hid (Kept.refl _ _)⟩
  case round =>
    obtain ⟨i, hi, rfl, hd, hk⟩ := hrel
    clear HD
    by_cases hlt : i < n1
    · have t0 : decide ((i : Int) < n1) = true := decide_eq_true (by omega)
      have t1 : (i : Int) < n1 := by omega
      have t2 : (i : Int) < n2 := by omega
      have t3 : (i : Int) < dn := by omega
      have hx : wr.cell? ⟨ba, oa + i, none⟩ = some (.int .u8 (xs.getD i 0)) := by
        obtain ⟨b', o', e, hc⟩ := (HA.out.kept hk.out (fun a e => by injection e with e; subst e; simpa using had)).at_ (j := i) (by have := H1.out; omega)
        injection e with e; injection e with e1 e2; subst e1 e2; exact hc
      have hy : wr.cell? ⟨bb, ob + i, none⟩ = some (.int .u8 (ys.getD i 0)) := by
        obtain ⟨b', o', e, hc⟩ := (HB.out.kept hk.out (fun a e => by injection e with e; subst e; simpa using hbd)).at_ (j := i) (by have := H2.out; omega)
        injection e with e; injection e with e1 e2; subst e1 e2; exact hc
      have HXT := Lib.hid (xorL_take xs ys i (by have := H1.out; omega) (by have := H2.out; omega))
      have hXl : (nums ((xorL xs ys).take i)).length = i := by rw [nums_length, List.length_take, xorL_length, H1.out, H2.out]; omega
      have hset := set_mid L (nums ((xorL xs ys).take i)) od i (.int .u8 (x8 (xs.getD i 0) (ys.getD i 0))) hXl (by omega)
      have hz : wr.cell? ⟨d, od + i, none⟩ = (L.take od ++ nums ((xorL xs ys).take i) ++ L.drop (od + i))[od + i]? := by rw [blk_cell hd.out, List.getElem?_toArray]
      have hzl : od + i < (L.take od ++ nums ((xorL xs ys).take i) ++ L.drop (od + i)).length := by simp [hXl]; omega
      rw [List.getElem?_eq_getElem hzl] at hz
      have HS := Lib.hid hset
      clear hset
      have fz := blk_free hd.out (od + i)
      generalize (L.take od ++ nums ((xorL xs ys).take i) ++ L.drop (od + i))[od + i] = z at hz
      clear hzl
      generalize xs.getD i 0 = x at *
      generalize ys.getD i 0 = y at *
      go_upto_region 5 with fail
      refine wp_region_held_drew (S := fun w' => w'.cell? ⟨ba, oa + i, none⟩ = some (.int .u8 x) ∧ w'.cell? ⟨bb, ob + i, none⟩ = some (.int .u8 y)) (by kernel_rfl) ⟨hx, hy⟩ (fun hHeld => ?_)
      refine wpAnyH_take (i := 0) (v := ?_) rfl (by kernel_rfl) (by kernel_rfl) (by kernel_rfl) (fun _ _ _ h => h) (Or.inl ⟨by rfl, ?_⟩) hHeld ?_
      rotate_left
      · (intro w' hSw; (try dsimp only at hSw); go_simp <;> with_reducible rfl)
      simp only [List.getElem_toArray, List.getElem_cons_succ, List.getElem_cons_zero, Act.put, List.setIfInBounds_toArray, List.set_cons_zero, List.set_cons_succ]
      refine wpAnyH_take (i := 1) (v := ?_) rfl (by kernel_rfl) (by kernel_rfl) (by kernel_rfl) (fun _ _ _ h => h) (Or.inl ⟨by rfl, ?_⟩) hHeld ?_
      rotate_left
      · (intro w' hSw; (try dsimp only at hSw); go_simp <;> with_reducible rfl)
      simp only [List.getElem_toArray, List.getElem_cons_succ, List.getElem_cons_zero, Act.put, List.setIfInBounds_toArray, List.set_cons_zero, List.set_cons_succ]
      refine wpAnyH_take (i := 2) (v := ?_) rfl (by kernel_rfl) (by kernel_rfl) (by kernel_rfl) (fun _ _ _ h => h) (Or.inl ⟨by rfl, ?_⟩) hHeld ?_
      rotate_left
      · (intro w' hSw; (try dsimp only at hSw); go_simp <;> with_reducible rfl)
      simp only [List.getElem_toArray, List.getElem_cons_succ, List.getElem_cons_zero, Act.put, List.setIfInBounds_toArray, List.set_cons_zero, List.set_cons_succ]
      refine wpAnyH_take (i := 3) (v := ?_) rfl (by kernel_rfl) (by kernel_rfl) (by kernel_rfl) (fun _ _ _ h => h) (Or.inl ⟨by rfl, ?_⟩) hHeld ?_
      rotate_left
      · (intro w' hSw; (try dsimp only at hSw); go_simp <;> with_reducible rfl)
      simp only [List.getElem_toArray, List.getElem_cons_succ, List.getElem_cons_zero, Act.put, List.setIfInBounds_toArray, List.set_cons_zero, List.set_cons_succ]
      refine wpAnyH_take (i := 4) (v := ?_) rfl (by kernel_rfl) (by kernel_rfl) (by kernel_rfl) (fun _ _ _ h => h) (Or.inl ⟨by rfl, ?_⟩) hHeld ?_
      rotate_left
      · (intro w' hSw; (try dsimp only at hSw); go_simp <;> with_reducible rfl)
      simp only [List.getElem_toArray, List.getElem_cons_succ, List.getElem_cons_zero, Act.put, List.setIfInBounds_toArray, List.set_cons_zero, List.set_cons_succ]
      refine wpAnyH_take (i := 5) (v := ?_) rfl (by kernel_rfl) (by kernel_rfl) (by kernel_rfl) (fun _ _ _ h => h) (Or.inl ⟨by rfl, ?_⟩) hHeld ?_
      rotate_left
      · (intro w' hSw; (try dsimp only at hSw); go_simp <;> with_reducible rfl)
      simp only [List.getElem_toArray, List.getElem_cons_succ, List.getElem_cons_zero, Act.put, List.setIfInBounds_toArray, List.set_cons_zero, List.set_cons_succ]
      refine wpAnyH_take (i := 6) (v := ?_) rfl (by kernel_rfl) (by kernel_rfl) (by kernel_rfl) (fun _ _ _ h => h) (Or.inl ⟨by rfl, ?_⟩) hHeld ?_
      rotate_left
      · (intro w' hSw; (try dsimp only at hSw); go_simp <;> with_reducible rfl)
      simp only [List.getElem_toArray, List.getElem_cons_succ, List.getElem_cons_zero, Act.put, List.setIfInBounds_toArray, List.set_cons_zero, List.set_cons_succ]
      refine wpAnyH_take (i := 7) (v := ?_) rfl (by kernel_rfl) (by kernel_rfl) (by kernel_rfl) (fun _ _ _ h => h) (Or.inl ⟨by rfl, ?_⟩) hHeld ?_
      rotate_left
      · (intro w' hSw; (try dsimp only at hSw); go_simp <;> with_reducible rfl)
      simp only [List.getElem_toArray, List.getElem_cons_succ, List.getElem_cons_zero, Act.put, List.setIfInBounds_toArray, List.set_cons_zero, List.set_cons_succ]
      refine wpAnyH_take (i := 8) (v := ?_) rfl (by kernel_rfl) (by kernel_rfl) (by kernel_rfl) (fun _ _ _ h => h) (Or.inl ⟨by rfl, ?_⟩) hHeld ?_
      rotate_left
      · (intro w' hSw; (try dsimp only at hSw); go_simp <;> with_reducible rfl)
      simp only [List.getElem_toArray, List.getElem_cons_succ, List.getElem_cons_zero, Act.put, List.setIfInBounds_toArray, List.set_cons_zero, List.set_cons_succ]
      refine wpAnyH_take (i := 9) (v := ?_) rfl (by kernel_rfl) (by kernel_rfl) (by kernel_rfl) (fun _ _ _ h => h) (Or.inl ⟨by rfl, ?_⟩) hHeld ?_
      rotate_left
      · (intro w' hSw; (try dsimp only at hSw); go_simp <;> with_reducible rfl)
      simp only [List.getElem_toArray, List.getElem_cons_succ, List.getElem_cons_zero, Act.put, List.setIfInBounds_toArray, List.set_cons_zero, List.set_cons_succ]
      refine wpAnyH_take (i := 10) (v := ?_) rfl (by kernel_rfl) (by kernel_rfl) (by kernel_rfl) (fun _ _ _ h => h) (Or.inl ⟨by rfl, ?_⟩) hHeld ?_
      rotate_left
      · (intro w' hSw; (try dsimp only at hSw); go_simp <;> with_reducible rfl)
      simp only [List.getElem_toArray, List.getElem_cons_succ, List.getElem_cons_zero, Act.put, List.setIfInBounds_toArray, List.set_cons_zero, List.set_cons_succ]
      refine wpAnyH_take (i := 11) (v := ?_) rfl (by kernel_rfl) (by kernel_rfl) (by kernel_rfl) (fun _ _ _ h => h) (Or.inl ⟨by rfl, ?_⟩) hHeld ?_
      rotate_left
      · (intro w' hSw; (try dsimp only at hSw); go_simp <;> with_reducible rfl)
      simp only [List.getElem_toArray, List.getElem_cons_succ, List.getElem_cons_zero, Act.put, List.setIfInBounds_toArray, List.set_cons_zero, List.set_cons_succ]
      refine wpAnyH_ready (rs := [12]) (by kernel_rfl) (by simp) ?_
      refine AllReadyH.cons rfl (fun K hK => ?_) AllReadyH.nil
      go_simp
      refine hK.out _ _ ⟨(World.cell?_setCell_far _ _ _ _ (fun e => had e.symm)).trans hx, (World.cell?_setCell_far _ _ _ _ (fun e => hbd e.symm)).trans hy⟩ (fun hHeld => ?_)
      clear hK K hHeld
      refine wpAnyH_done (by kernel_rfl) ?_ _
      have HD2 := Lib.hid (blk_set hd.out (od + i) (.int .u8 (x8 x y)))
      have HK2 : Hid (Kept [d] w (wr.setCell ⟨d, od + i, none⟩ (.int .u8 (x8 x y)))) := Lib.hid (hk.out.setCell (.inl (by simp)) _)
      clear hx hy hz fz
      go_wp2_with fail
      go_roundg (gk - 1)
      case measure => omega
      case rel =>
        refine ⟨i + 1, by omega, by simp, Lib.hid ?_, Lib.hid HK2.out.drew⟩
        rw [HXT.out, nums_append, show nums [x8 x y] = [Value.int .u8 (x8 x y)] from rfl, ← HS.out]
        have := HD2.out
        rw [List.setIfInBounds_toArray] at this
        exact this
    · obtain rfl : i = n1 := by omega
      have t0 : decide ((i : Int) < i) = false := decide_eq_false (by omega)
      go_wp2_with fail
      go_ret
      refine ⟨rfl, ?_, hk.out⟩
      have := hd.out
      rw [List.take_of_length_le (l := xorL xs ys) (by rw [xorL_length, H1.out, H2.out]; omega)] at this
      exact this
end Go.Proofs.Ythgghgejndncnaa
