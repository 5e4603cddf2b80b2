/- 'spec.Find' of a message with one attribute of the kind. -/
import Derived.Test.YthgghgejndncnaaDec
import Derived.Test.YthgghgejndncnaaMAdd1
import Derived.IntWalk
namespace Go.Proofs.Ythgghgejndncnaa
open Go.RowKit
set_option linter.unusedSimpArgs false
set_option linter.unusedVariables false

theorem msgH_at (t : Int) (id v : List Int) (hid : id.length = 12) : (msgH 0 0 t id v).getD 20 0 = t / 256 % 256 ∧ (msgH 0 0 t id v).getD 21 0 = t % 256 ∧ (msgH 0 0 t id v).getD 22 0 = (v.length : Int) / 256 % 256 ∧ (msgH 0 0 t id v).getD 23 0 = (v.length : Int) % 256 ∧
    (msgH 0 0 t id v).getD 2 0 = ((attrB t v).length : Int) / 256 % 256 ∧ (msgH 0 0 t id v).getD 3 0 = ((attrB t v).length : Int) % 256 := by
  obtain ⟨a, b, c, d, e, f, g, i, j, k, l, m, rfl⟩ := list12 id hid
  exact ⟨rfl, rfl, rfl, rfl, rfl, rfl⟩
theorem msgH_cookie (t : Int) (id v : List Int) : ((msgH 0 0 t id v).drop 4).take 4 = [33, 18, 164, 66] := rfl
theorem msgH_val (t : Int) (id v : List Int) (hid : id.length = 12) : ((msgH 0 0 t id v).drop 24).take v.length = v := by
  obtain ⟨a, b, c, d, e, f, g, i, j, k, l, m, rfl⟩ := list12 id hid
  have e : (msgH 0 0 t [a, b, c, d, e, f, g, i, j, k, l, m] v).drop 24 = v ++ List.replicate (pad4 (4 + v.length) - (4 + v.length)) 0 := rfl
  rw [e, List.take_left']
  rfl

set_option maxRecDepth 100000 in
set_option maxHeartbeats 4000000 in
theorem sFind_any (k : Int) (hk : 0 ≤ k ∧ k ≤ 10) (A : Option Addr) (n c l : Nat) (id v : List Int) (w : World) (hn : n = 24 + pad4 l) (hnc : n ≤ c) (hid : id.length = 12) (hv : v.length = l) (hl : l ≤ 1000) (hR : Rd w A (msgH 0 0 (typeB k) id v)) :
    Calls Try.prog 24 #[.int .i64 k, .slice A n c] w fun e w' => ∃ A' c', e = .returned (.tuple #[.slice A' l c', .bool true]) ∧ l ≤ c' ∧ Rd w' A' v ∧ Below w.heap.size w w' := by
  have hrl : (msgH 0 0 (typeB k) id v).length = n := by
    have : pad4 (4 + l) = 4 + pad4 l := by unfold pad4; omega
    simp [msgH, put2, attrB_length, hid, hv, this]
    omega
  have hp1 : l ≤ pad4 l ∧ pad4 l ≤ l + 3 := by unfold pad4; omega
  obtain ⟨b, o, rfl, hc⟩ := hR (by intro e; rw [e] at hrl; simp at hrl; omega)
  have m20 := msgH_at (typeB k) id v hid
  have hal : (attrB (typeB k) v).length = n - 20 := by rw [attrB_length, hv, hn]; unfold pad4; omega
  have htk := typeB_rng k
  obtain ⟨T0, hT0⟩ : ∃ T0, T0 = typeB k / 256 % 256 := ⟨_, rfl⟩
  obtain ⟨T1, hT1⟩ : ∃ T1, T1 = typeB k % 256 := ⟨_, rfl⟩
  obtain ⟨V0, hV0⟩ : ∃ V0, V0 = (v.length : Int) / 256 % 256 := ⟨_, rfl⟩
  obtain ⟨V1, hV1⟩ : ∃ V1, V1 = (v.length : Int) % 256 := ⟨_, rfl⟩
  obtain ⟨L0, hL0⟩ : ∃ L0, L0 = ((attrB (typeB k) v).length : Int) / 256 % 256 := ⟨_, rfl⟩
  obtain ⟨L1, hL1⟩ : ∃ L1, L1 = ((attrB (typeB k) v).length : Int) % 256 := ⟨_, rfl⟩
  rw [← hT0, ← hT1, ← hV0, ← hV1, ← hL0, ← hL1] at m20
  have x2 := hc 2 (by omega)
  have x3 := hc 3 (by omega)
  have x20 := hc 20 (by omega)
  have x21 := hc 21 (by omega)
  have x22 := hc 22 (by omega)
  have x23 := hc 23 (by omega)
  rw [m20.2.2.2.2.1] at x2
  rw [m20.2.2.2.2.2] at x3
  rw [m20.1] at x20
  rw [m20.2.1] at x21
  rw [m20.2.2.1] at x22
  rw [m20.2.2.2.1] at x23
  rw [hal] at hL0 hL1
  rw [hv] at hV0 hV1
  have o1 : bits .or .i64 (L0 * 256) L1 = (n : Int) - 20 := by rw [or_i64 L0 L1 (by omega) (by omega)]; omega
  have o2 : bits .or .i64 (V0 * 256) V1 = l := by rw [or_i64 V0 V1 (by omega) (by omega)]; omega
  have o3 : bits .or .i64 (T0 * 256) T1 = typeB k := by rw [or_i64 T0 T1 (by omega) (by omega)]; omega
  have rL0 : 0 ≤ L0 ∧ L0 ≤ 255 := by omega
  have rL1 : 0 ≤ L1 ∧ L1 ≤ 255 := by omega
  have rV0 : 0 ≤ V0 ∧ V0 ≤ 255 := by omega
  have rV1 : 0 ≤ V1 ∧ V1 ≤ 255 := by omega
  have rT0 : 0 ≤ T0 ∧ T0 ≤ 255 := by omega
  have rT1 : 0 ≤ T1 ∧ T1 ≤ 255 := by omega
  obtain ⟨A4, q4, hA4, -⟩ := cut_mid (P := Try.prog) Try.underlying24 info_u8 (some ⟨b, o, none⟩) n c 4 8 4 4 8 rfl rfl rfl (by omega) hnc
  have hR4 := hA4 w _ hrl hR
  rw [msgH_cookie] at hR4
  obtain ⟨nb, hnb⟩ : ∃ nb, nb = n - 20 := ⟨_, rfl⟩
  obtain ⟨cb, hcb, q20⟩ : ∃ cb, nb ≤ cb ∧ ∀ W, (Instr.slice 24 (.slice (some ⟨b, o, none⟩) n c) (some (.int .i64 20)) none none).run Try.prog W = .ok (.slice (some ⟨b, o + 20, none⟩) nb cb) W :=
    ⟨c - 20, by omega, fun W => sl_from b o n c 20 nb 20 rfl (by omega) hnc (by omega) W⟩
  have hRb : Rd w (some ⟨b, o + 20, none⟩) ((msgH 0 0 (typeB k) id v).drop 20) := fun _ => ⟨b, o + 20, rfl, fun j hj => by
    rw [Nat.add_assoc, hc (20 + j) (by simp at hj; omega)]
    simp [List.getD_eq_getElem?_getD, List.getElem?_drop]⟩
  have hdl : ((msgH 0 0 (typeB k) id v).drop 20).length = nb := by simp; omega
  have hnbl : 4 + l ≤ nb := by omega
  have hnb2 : (nb : Int) = 4 + ((l : Int) + 3) / 4 * 4 := by rw [hnb, hn]; unfold pad4; omega
  obtain ⟨A24, q24, hA24, -⟩ := cut_mid (P := Try.prog) Try.underlying24 info_u8 (some ⟨b, o + 20, none⟩) nb cb 4 (4 + l) l 4 (4 + (l : Int)) rfl (by omega) rfl (by omega) hcb
  have hRv := hA24 w _ hdl hRb
  rw [List.drop_drop, show 20 + 4 = 24 from rfl, ← hv, msgH_val _ _ _ hid] at hRv
  have t24 : decide ((n : Int) < 24) = false := decide_eq_false (by omega)
  have tnb : ((nb : Int) != 4 + ((l : Int) + 3) / 4 * 4) = false := bne_eq_false_iff_eq.2 hnb2
  have l2 : (2 : Int) < n := by omega
  have l3 : (3 : Int) < n := by omega
  have hn24 : 24 ≤ n ∧ n ≤ 1100 := by omega
  have H := Lib.hid (And.intro hR4 hRv)
  have HX := Lib.hid (And.intro x2 (And.intro x3 (And.intro x20 (And.intro x21 (And.intro x22 x23)))))
  have HQ := Lib.hid q20
  have HT := Lib.hid tnb
  have HO := Lib.hid (And.intro o2 o3)
  have HN := Lib.hid hv
  clear hR hc hrl hp1 m20 hal hT0 hT1 hV0 hV1 hL0 hL1 hnb hnb2 hR4 hRv hRb hdl hA4 hA24 x20 x21 x22 x23 q20 hn tnb o2 o3 hid hv
  generalize c - 4 = c4 at *
  go_enter Try.func24, Try.ntmps24
  go_upto_region 1 with fail
  refine wp_region_held_drew (S := fun w' => (convert 24 9 (.slice A4 4 c4)).run Try.prog w' = .ok (.string (strOfNums [33, 18, 164, 66])) w' ∧ w'.cell? ⟨b, o + 2, none⟩ = some (.int .u8 L0) ∧ w'.cell? ⟨b, o + 3, none⟩ = some (.int .u8 L1)) (by kernel_rfl) ⟨conv_rd Try.underlying24 Try.underlying5 Try.underlying9 rfl H.out.1, x2, x3⟩ (fun hHeld => ?_)
  refine wpAnyH_take (i := 0) (v := ?_) rfl (by kernel_rfl) (by kernel_rfl) (by kernel_rfl) (fun _ _ _ h => h) (Or.inl ⟨by rfl, ?_⟩) hHeld ?_
  rotate_left
  · (intro w' hSw; (try dsimp only at hSw); go_simp <;> with_reducible rfl)
  simp only [List.getElem_toArray, List.getElem_cons_succ, List.getElem_cons_zero, Act.put, List.setIfInBounds_toArray, List.set_cons_zero, List.set_cons_succ]
  refine wpAnyH_take (i := 1) (v := ?_) rfl (by kernel_rfl) (by kernel_rfl) (by kernel_rfl) (fun _ _ _ h => h) (Or.inl ⟨by rfl, ?_⟩) hHeld ?_
  rotate_left
  · (intro w' hSw; (try dsimp only at hSw); go_simp <;> with_reducible rfl)
  simp only [List.getElem_toArray, List.getElem_cons_succ, List.getElem_cons_zero, Act.put, List.setIfInBounds_toArray, List.set_cons_zero, List.set_cons_succ]
  refine wpAnyH_take (i := 2) (v := ?_) rfl (by kernel_rfl) (by kernel_rfl) (by kernel_rfl) (fun _ _ _ h => h) (Or.inl ⟨by rfl, ?_⟩) hHeld ?_
  rotate_left
  · (intro w' hSw; (try dsimp only at hSw); go_simp <;> with_reducible rfl)
  simp only [List.getElem_toArray, List.getElem_cons_succ, List.getElem_cons_zero, Act.put, List.setIfInBounds_toArray, List.set_cons_zero, List.set_cons_succ]
  refine wpAnyH_take (i := 3) (v := ?_) rfl (by kernel_rfl) (by kernel_rfl) (by kernel_rfl) (fun _ _ _ h => h) (Or.inl ⟨by rfl, ?_⟩) hHeld ?_
  rotate_left
  · (intro w' hSw; (try dsimp only at hSw); go_simp <;> with_reducible rfl)
  simp only [List.getElem_toArray, List.getElem_cons_succ, List.getElem_cons_zero, Act.put, List.setIfInBounds_toArray, List.set_cons_zero, List.set_cons_succ]
  refine wpAnyH_take (i := 4) (v := ?_) rfl (by kernel_rfl) (by kernel_rfl) (by kernel_rfl) (fun _ _ _ h => h) (Or.inl ⟨by rfl, ?_⟩) hHeld ?_
  rotate_left
  · (intro w' hSw; (try dsimp only at hSw); go_simp <;> with_reducible rfl)
  simp only [List.getElem_toArray, List.getElem_cons_succ, List.getElem_cons_zero, Act.put, List.setIfInBounds_toArray, List.set_cons_zero, List.set_cons_succ]
  refine wpAnyH_take (i := 5) (v := ?_) rfl (by kernel_rfl) (by kernel_rfl) (by kernel_rfl) (fun _ _ _ h => h) (Or.inl ⟨by rfl, ?_⟩) hHeld ?_
  rotate_left
  · (intro w' hSw; (try dsimp only at hSw); go_simp <;> with_reducible rfl)
  simp only [List.getElem_toArray, List.getElem_cons_succ, List.getElem_cons_zero, Act.put, List.setIfInBounds_toArray, List.set_cons_zero, List.set_cons_succ]
  refine wpAnyH_take (i := 6) (v := ?_) rfl (by kernel_rfl) (by kernel_rfl) (by kernel_rfl) (fun _ _ _ h => h) (Or.inl ⟨by rfl, ?_⟩) hHeld ?_
  rotate_left
  · (intro w' hSw; (try dsimp only at hSw); go_simp <;> with_reducible rfl)
  simp only [List.getElem_toArray, List.getElem_cons_succ, List.getElem_cons_zero, Act.put, List.setIfInBounds_toArray, List.set_cons_zero, List.set_cons_succ]
  refine wpAnyH_ready (rs := [7]) (by kernel_rfl) (by simp) ?_
  refine AllReadyH.cons rfl (fun K hK => ?_) AllReadyH.nil
  go_simp
  go_at_call 40
  refine (cookie_new _).mono ?_
  rintro e w2 ⟨g2, rfl, hn2⟩
  have hB2 : Below w.heap.size w w2 := below_drew hn2.2.2.2.2
  have k2 := Kept.of_below (S := []) hB2
  have y2 := k2.cell HX.out.1 (by simp)
  have y3 := k2.cell HX.out.2.1 (by simp)
  have hR4 := H.out.1.below hB2
  have hRc := hn2.2.2.2.1
  refine hK.out _ _ ⟨conv_rd Try.underlying24 Try.underlying5 Try.underlying9 rfl hR4, y2, y3⟩ (fun hHeld => ?_)
  clear hK K
  refine wpAnyH_strong (S' := fun w' => (convert 24 9 (.slice (some ⟨g2, 0, none⟩) 4 4)).run Try.prog w' = .ok (.string (strOfNums [33, 18, 164, 66])) w' ∧ (convert 24 9 (.slice A4 4 c4)).run Try.prog w' = .ok (.string (strOfNums [33, 18, 164, 66])) w' ∧ w'.cell? ⟨b, o + 2, none⟩ = some (.int .u8 L0) ∧ w'.cell? ⟨b, o + 3, none⟩ = some (.int .u8 L1)) (fun w' h => h.2) _ _ _ _ ?_
  replace hHeld : (fun w' : World => (convert 24 9 (.slice (some ⟨g2, 0, none⟩) 4 4)).run Try.prog w' = .ok (.string (strOfNums [33, 18, 164, 66])) w' ∧ (convert 24 9 (.slice A4 4 c4)).run Try.prog w' = .ok (.string (strOfNums [33, 18, 164, 66])) w' ∧ w'.cell? ⟨b, o + 2, none⟩ = some (.int .u8 L0) ∧ w'.cell? ⟨b, o + 3, none⟩ = some (.int .u8 L1)) w2 := ⟨conv_rd Try.underlying24 Try.underlying5 Try.underlying9 rfl hRc, hHeld⟩
  have s1 : IntKind.i64.wrap ((n : Int) - 20) = (n : Int) - 20 := wraps_i64 _ (by omega) (by omega)
  have s2 : IntKind.i64.wrap (L0 * 256) = L0 * 256 := wraps_i64 _ (by omega) (by omega)
  have s3 : IntKind.i64.wrap L0 = L0 := wraps_i64 _ (by omega) (by omega)
  have s4 : IntKind.i64.wrap L1 = L1 := wraps_i64 _ (by omega) (by omega)
  refine wpAnyH_take (i := 8) (v := ?_) rfl (by kernel_rfl) (by kernel_rfl) (by kernel_rfl) (fun _ _ _ h => h) (Or.inl ⟨by rfl, ?_⟩) hHeld ?_
  rotate_left
  · (intro w' hSw; (try dsimp only at hSw); go_simp <;> with_reducible rfl)
  simp only [List.getElem_toArray, List.getElem_cons_succ, List.getElem_cons_zero, Act.put, List.setIfInBounds_toArray, List.set_cons_zero, List.set_cons_succ]
  refine wpAnyH_take (i := 9) (v := ?_) rfl (by kernel_rfl) (by kernel_rfl) (by kernel_rfl) (fun _ _ _ h => h) (Or.inl ⟨by rfl, ?_⟩) hHeld ?_
  rotate_left
  · (intro w' hSw; (try dsimp only at hSw); go_simp <;> with_reducible rfl)
  simp only [List.getElem_toArray, List.getElem_cons_succ, List.getElem_cons_zero, Act.put, List.setIfInBounds_toArray, List.set_cons_zero, List.set_cons_succ]
  refine wpAnyH_take (i := 10) (v := ?_) rfl (by kernel_rfl) (by kernel_rfl) (by kernel_rfl) (fun _ _ _ h => h) (Or.inl ⟨by rfl, ?_⟩) hHeld ?_
  rotate_left
  · (intro w' hSw; (try dsimp only at hSw); go_simp <;> with_reducible rfl)
  simp only [List.getElem_toArray, List.getElem_cons_succ, List.getElem_cons_zero, Act.put, List.setIfInBounds_toArray, List.set_cons_zero, List.set_cons_succ]
  refine wpAnyH_take (i := 11) (v := ?_) rfl (by kernel_rfl) (by kernel_rfl) (by kernel_rfl) (fun _ _ _ h => h) (Or.inl ⟨by rfl, ?_⟩) hHeld ?_
  rotate_left
  · (intro w' hSw; (try dsimp only at hSw); go_simp <;> with_reducible rfl)
  simp only [List.getElem_toArray, List.getElem_cons_succ, List.getElem_cons_zero, Act.put, List.setIfInBounds_toArray, List.set_cons_zero, List.set_cons_succ]
  refine wpAnyH_take (i := 12) (v := ?_) rfl (by kernel_rfl) (by kernel_rfl) (by kernel_rfl) (fun _ _ _ h => h) (Or.inl ⟨by rfl, ?_⟩) hHeld ?_
  rotate_left
  · (intro w' hSw; (try dsimp only at hSw); go_simp <;> with_reducible rfl)
  simp only [List.getElem_toArray, List.getElem_cons_succ, List.getElem_cons_zero, Act.put, List.setIfInBounds_toArray, List.set_cons_zero, List.set_cons_succ]
  refine wpAnyH_take (i := 13) (v := ?_) rfl (by kernel_rfl) (by kernel_rfl) (by kernel_rfl) (fun _ _ _ h => h) (Or.inl ⟨by rfl, ?_⟩) hHeld ?_
  rotate_left
  · (intro w' hSw; (try dsimp only at hSw); go_simp <;> with_reducible rfl)
  simp only [List.getElem_toArray, List.getElem_cons_succ, List.getElem_cons_zero, Act.put, List.setIfInBounds_toArray, List.set_cons_zero, List.set_cons_succ]
  refine wpAnyH_take (i := 14) (v := ?_) rfl (by kernel_rfl) (by kernel_rfl) (by kernel_rfl) (fun _ _ _ h => h) (Or.inl ⟨by rfl, ?_⟩) hHeld ?_
  rotate_left
  · (intro w' hSw; (try dsimp only at hSw); go_simp <;> with_reducible rfl)
  simp only [List.getElem_toArray, List.getElem_cons_succ, List.getElem_cons_zero, Act.put, List.setIfInBounds_toArray, List.set_cons_zero, List.set_cons_succ]
  refine wpAnyH_take (i := 15) (v := ?_) rfl (by kernel_rfl) (by kernel_rfl) (by kernel_rfl) (fun _ _ _ h => h) (Or.inl ⟨by rfl, ?_⟩) hHeld ?_
  rotate_left
  · (intro w' hSw; (try dsimp only at hSw); go_simp <;> with_reducible rfl)
  simp only [List.getElem_toArray, List.getElem_cons_succ, List.getElem_cons_zero, Act.put, List.setIfInBounds_toArray, List.set_cons_zero, List.set_cons_succ]
  refine wpAnyH_take (i := 16) (v := ?_) rfl (by kernel_rfl) (by kernel_rfl) (by kernel_rfl) (fun _ _ _ h => h) (Or.inl ⟨by rfl, ?_⟩) hHeld ?_
  rotate_left
  · (intro w' hSw; (try dsimp only at hSw); go_simp <;> with_reducible rfl)
  simp only [List.getElem_toArray, List.getElem_cons_succ, List.getElem_cons_zero, Act.put, List.setIfInBounds_toArray, List.set_cons_zero, List.set_cons_succ]
  refine wpAnyH_take (i := 17) (v := ?_) rfl (by kernel_rfl) (by kernel_rfl) (by kernel_rfl) (fun _ _ _ h => h) (Or.inl ⟨by rfl, ?_⟩) hHeld ?_
  rotate_left
  · (intro w' hSw; (try dsimp only at hSw); go_simp <;> with_reducible rfl)
  simp only [List.getElem_toArray, List.getElem_cons_succ, List.getElem_cons_zero, Act.put, List.setIfInBounds_toArray, List.set_cons_zero, List.set_cons_succ]
  refine wpAnyH_take (i := 18) (v := ?_) rfl (by kernel_rfl) (by kernel_rfl) (by kernel_rfl) (fun _ _ _ h => h) (Or.inl ⟨by rfl, ?_⟩) hHeld ?_
  rotate_left
  · (intro w' hSw; (try dsimp only at hSw); go_simp <;> with_reducible rfl)
  simp only [List.getElem_toArray, List.getElem_cons_succ, List.getElem_cons_zero, Act.put, List.setIfInBounds_toArray, List.set_cons_zero, List.set_cons_succ]
  refine wpAnyH_take (i := 19) (v := ?_) rfl (by kernel_rfl) (by kernel_rfl) (by kernel_rfl) (fun _ _ _ h => h) (Or.inl ⟨by rfl, ?_⟩) hHeld ?_
  rotate_left
  · (intro w' hSw; (try dsimp only at hSw); go_simp <;> with_reducible rfl)
  simp only [List.getElem_toArray, List.getElem_cons_succ, List.getElem_cons_zero, Act.put, List.setIfInBounds_toArray, List.set_cons_zero, List.set_cons_succ]
  refine wpAnyH_take (i := 20) (v := ?_) rfl (by kernel_rfl) (by kernel_rfl) (by kernel_rfl) (fun _ _ _ h => h) (Or.inl ⟨by rfl, ?_⟩) hHeld ?_
  rotate_left
  · (intro w' hSw; (try dsimp only at hSw); go_simp <;> with_reducible rfl)
  simp only [List.getElem_toArray, List.getElem_cons_succ, List.getElem_cons_zero, Act.put, List.setIfInBounds_toArray, List.set_cons_zero, List.set_cons_succ]
  refine wpAnyH_take (i := 21) (v := ?_) rfl (by kernel_rfl) (by kernel_rfl) (by kernel_rfl) (fun _ _ _ h => h) (Or.inl ⟨by rfl, ?_⟩) hHeld ?_
  rotate_left
  · (intro w' hSw; (try dsimp only at hSw); go_simp <;> with_reducible rfl)
  simp only [List.getElem_toArray, List.getElem_cons_succ, List.getElem_cons_zero, Act.put, List.setIfInBounds_toArray, List.set_cons_zero, List.set_cons_succ]
  refine wpAnyH_take (i := 22) (v := ?_) rfl (by kernel_rfl) (by kernel_rfl) (by kernel_rfl) (fun _ _ _ h => h) (Or.inl ⟨by rfl, ?_⟩) hHeld ?_
  rotate_left
  · (intro w' hSw; (try dsimp only at hSw); go_simp <;> with_reducible rfl)
  simp only [List.getElem_toArray, List.getElem_cons_succ, List.getElem_cons_zero, Act.put, List.setIfInBounds_toArray, List.set_cons_zero, List.set_cons_succ]
  refine wpAnyH_take (i := 23) (v := ?_) rfl (by kernel_rfl) (by kernel_rfl) (by kernel_rfl) (fun _ _ _ h => h) (Or.inl ⟨by rfl, ?_⟩) hHeld ?_
  rotate_left
  · (intro w' hSw; (try dsimp only at hSw); go_simp <;> with_reducible rfl)
  simp only [List.getElem_toArray, List.getElem_cons_succ, List.getElem_cons_zero, Act.put, List.setIfInBounds_toArray, List.set_cons_zero, List.set_cons_succ]
  refine wpAnyH_take (i := 24) (v := ?_) rfl (by kernel_rfl) (by kernel_rfl) (by kernel_rfl) (fun _ _ _ h => h) (Or.inl ⟨by rfl, ?_⟩) hHeld ?_
  rotate_left
  · (intro w' hSw; (try dsimp only at hSw); go_simp <;> with_reducible rfl)
  simp only [List.getElem_toArray, List.getElem_cons_succ, List.getElem_cons_zero, Act.put, List.setIfInBounds_toArray, List.set_cons_zero, List.set_cons_succ]
  refine wpAnyH_take (i := 25) (v := ?_) rfl (by kernel_rfl) (by kernel_rfl) (by kernel_rfl) (fun _ _ _ h => h) (Or.inl ⟨by rfl, ?_⟩) hHeld ?_
  rotate_left
  · (intro w' hSw; (try dsimp only at hSw); go_simp <;> with_reducible rfl)
  simp only [List.getElem_toArray, List.getElem_cons_succ, List.getElem_cons_zero, Act.put, List.setIfInBounds_toArray, List.set_cons_zero, List.set_cons_succ]
  refine wpAnyH_take (i := 26) (v := ?_) rfl (by kernel_rfl) (by kernel_rfl) (by kernel_rfl) (fun _ _ _ h => h) (Or.inl ⟨by rfl, ?_⟩) hHeld ?_
  rotate_left
  · (intro w' hSw; (try dsimp only at hSw); go_simp <;> with_reducible rfl)
  simp only [List.getElem_toArray, List.getElem_cons_succ, List.getElem_cons_zero, Act.put, List.setIfInBounds_toArray, List.set_cons_zero, List.set_cons_succ]
  refine wpAnyH_done (by kernel_rfl) ?_ _
  have H2 := Lib.hid (And.intro hB2 k2)
  clear hHeld x2 x3 y2 y3 hR4 hRc hn2 hB2 k2 o1 s1 s2 s3 s4
  have q20 := HQ.out
  go_upto_region 4 with fail
  have z22 := H2.out.2.cell HX.out.2.2.2.2.1 (by simp)
  have z23 := H2.out.2.cell HX.out.2.2.2.2.2 (by simp)
  have lb2 : (2 : Int) < nb := by omega
  have lb3 : (3 : Int) < nb := by omega
  have o2 := HO.out.1
  have s1 : IntKind.i64.wrap (V0 * 256) = V0 * 256 := wraps_i64 _ (by omega) (by omega)
  have s2 : IntKind.i64.wrap V0 = V0 := wraps_i64 _ (by omega) (by omega)
  have s3 : IntKind.i64.wrap V1 = V1 := wraps_i64 _ (by omega) (by omega)
  refine wp_region_held_drew (S := fun w' => w'.cell? ⟨b, o + 20 + 2, none⟩ = some (.int .u8 V0) ∧ w'.cell? ⟨b, o + 20 + 3, none⟩ = some (.int .u8 V1)) (by kernel_rfl) ⟨z22, z23⟩ (fun hHeld => ?_)
  refine wpAnyH_take (i := 0) (v := ?_) rfl (by kernel_rfl) (by kernel_rfl) (by kernel_rfl) (fun _ _ _ h => h) (Or.inl ⟨by rfl, ?_⟩) hHeld ?_
  rotate_left
  · (intro w' hSw; (try dsimp only at hSw); go_simp <;> with_reducible rfl)
  simp only [List.getElem_toArray, List.getElem_cons_succ, List.getElem_cons_zero, Act.put, List.setIfInBounds_toArray, List.set_cons_zero, List.set_cons_succ]
  refine wpAnyH_take (i := 1) (v := ?_) rfl (by kernel_rfl) (by kernel_rfl) (by kernel_rfl) (fun _ _ _ h => h) (Or.inl ⟨by rfl, ?_⟩) hHeld ?_
  rotate_left
  · (intro w' hSw; (try dsimp only at hSw); go_simp <;> with_reducible rfl)
  simp only [List.getElem_toArray, List.getElem_cons_succ, List.getElem_cons_zero, Act.put, List.setIfInBounds_toArray, List.set_cons_zero, List.set_cons_succ]
  refine wpAnyH_take (i := 2) (v := ?_) rfl (by kernel_rfl) (by kernel_rfl) (by kernel_rfl) (fun _ _ _ h => h) (Or.inl ⟨by rfl, ?_⟩) hHeld ?_
  rotate_left
  · (intro w' hSw; (try dsimp only at hSw); go_simp <;> with_reducible rfl)
  simp only [List.getElem_toArray, List.getElem_cons_succ, List.getElem_cons_zero, Act.put, List.setIfInBounds_toArray, List.set_cons_zero, List.set_cons_succ]
  refine wpAnyH_take (i := 3) (v := ?_) rfl (by kernel_rfl) (by kernel_rfl) (by kernel_rfl) (fun _ _ _ h => h) (Or.inl ⟨by rfl, ?_⟩) hHeld ?_
  rotate_left
  · (intro w' hSw; (try dsimp only at hSw); go_simp <;> with_reducible rfl)
  simp only [List.getElem_toArray, List.getElem_cons_succ, List.getElem_cons_zero, Act.put, List.setIfInBounds_toArray, List.set_cons_zero, List.set_cons_succ]
  refine wpAnyH_take (i := 4) (v := ?_) rfl (by kernel_rfl) (by kernel_rfl) (by kernel_rfl) (fun _ _ _ h => h) (Or.inl ⟨by rfl, ?_⟩) hHeld ?_
  rotate_left
  · (intro w' hSw; (try dsimp only at hSw); go_simp <;> with_reducible rfl)
  simp only [List.getElem_toArray, List.getElem_cons_succ, List.getElem_cons_zero, Act.put, List.setIfInBounds_toArray, List.set_cons_zero, List.set_cons_succ]
  refine wpAnyH_take (i := 5) (v := ?_) rfl (by kernel_rfl) (by kernel_rfl) (by kernel_rfl) (fun _ _ _ h => h) (Or.inl ⟨by rfl, ?_⟩) hHeld ?_
  rotate_left
  · (intro w' hSw; (try dsimp only at hSw); go_simp <;> with_reducible rfl)
  simp only [List.getElem_toArray, List.getElem_cons_succ, List.getElem_cons_zero, Act.put, List.setIfInBounds_toArray, List.set_cons_zero, List.set_cons_succ]
  refine wpAnyH_take (i := 6) (v := ?_) rfl (by kernel_rfl) (by kernel_rfl) (by kernel_rfl) (fun _ _ _ h => h) (Or.inl ⟨by rfl, ?_⟩) hHeld ?_
  rotate_left
  · (intro w' hSw; (try dsimp only at hSw); go_simp <;> with_reducible rfl)
  simp only [List.getElem_toArray, List.getElem_cons_succ, List.getElem_cons_zero, Act.put, List.setIfInBounds_toArray, List.set_cons_zero, List.set_cons_succ]
  refine wpAnyH_take (i := 7) (v := ?_) rfl (by kernel_rfl) (by kernel_rfl) (by kernel_rfl) (fun _ _ _ h => h) (Or.inl ⟨by rfl, ?_⟩) hHeld ?_
  rotate_left
  · (intro w' hSw; (try dsimp only at hSw); go_simp <;> with_reducible rfl)
  simp only [List.getElem_toArray, List.getElem_cons_succ, List.getElem_cons_zero, Act.put, List.setIfInBounds_toArray, List.set_cons_zero, List.set_cons_succ]
  refine wpAnyH_take (i := 8) (v := ?_) rfl (by kernel_rfl) (by kernel_rfl) (by kernel_rfl) (fun _ _ _ h => h) (Or.inl ⟨by rfl, ?_⟩) hHeld ?_
  rotate_left
  · (intro w' hSw; (try dsimp only at hSw); go_simp <;> with_reducible rfl)
  simp only [List.getElem_toArray, List.getElem_cons_succ, List.getElem_cons_zero, Act.put, List.setIfInBounds_toArray, List.set_cons_zero, List.set_cons_succ]
  refine wpAnyH_take (i := 9) (v := ?_) rfl (by kernel_rfl) (by kernel_rfl) (by kernel_rfl) (fun _ _ _ h => h) (Or.inl ⟨by rfl, ?_⟩) hHeld ?_
  rotate_left
  · (intro w' hSw; (try dsimp only at hSw); go_simp <;> with_reducible rfl)
  simp only [List.getElem_toArray, List.getElem_cons_succ, List.getElem_cons_zero, Act.put, List.setIfInBounds_toArray, List.set_cons_zero, List.set_cons_succ]
  refine wpAnyH_take (i := 10) (v := ?_) rfl (by kernel_rfl) (by kernel_rfl) (by kernel_rfl) (fun _ _ _ h => h) (Or.inl ⟨by rfl, ?_⟩) hHeld ?_
  rotate_left
  · (intro w' hSw; (try dsimp only at hSw); go_simp <;> with_reducible rfl)
  simp only [List.getElem_toArray, List.getElem_cons_succ, List.getElem_cons_zero, Act.put, List.setIfInBounds_toArray, List.set_cons_zero, List.set_cons_succ]
  refine wpAnyH_done (by kernel_rfl) ?_ _
  clear hHeld z22 z23 o2 s1 s2 s3 lb2 lb3 q20
  go_upto_region 5 with fail
  have z20 := H2.out.2.cell HX.out.2.2.1 (by simp)
  have z21 := H2.out.2.cell HX.out.2.2.2.1 (by simp)
  have lb0 : 0 < nb := by omega
  have lb1 : (1 : Int) < nb := by omega
  have o3 := HO.out.2
  have tnb := HT.out
  have s1 : IntKind.i64.wrap (T0 * 256) = T0 * 256 := wraps_i64 _ (by omega) (by omega)
  have s2 : IntKind.i64.wrap T0 = T0 := wraps_i64 _ (by omega) (by omega)
  have s3 : IntKind.i64.wrap T1 = T1 := wraps_i64 _ (by omega) (by omega)
  refine wp_region_held_drew (S := fun w' => w'.cell? ⟨b, o + 20, none⟩ = some (.int .u8 T0) ∧ w'.cell? ⟨b, o + 20 + 1, none⟩ = some (.int .u8 T1)) (by kernel_rfl) ⟨z20, z21⟩ (fun hHeld => ?_)
  refine wpAnyH_take (i := 0) (v := ?_) rfl (by kernel_rfl) (by kernel_rfl) (by kernel_rfl) (fun _ _ _ h => h) (Or.inl ⟨by rfl, ?_⟩) hHeld ?_
  rotate_left
  · (intro w' hSw; (try dsimp only at hSw); go_simp <;> with_reducible rfl)
  simp only [List.getElem_toArray, List.getElem_cons_succ, List.getElem_cons_zero, Act.put, List.setIfInBounds_toArray, List.set_cons_zero, List.set_cons_succ]
  refine wpAnyH_take (i := 1) (v := ?_) rfl (by kernel_rfl) (by kernel_rfl) (by kernel_rfl) (fun _ _ _ h => h) (Or.inl ⟨by rfl, ?_⟩) hHeld ?_
  rotate_left
  · (intro w' hSw; (try dsimp only at hSw); go_simp <;> with_reducible rfl)
  simp only [List.getElem_toArray, List.getElem_cons_succ, List.getElem_cons_zero, Act.put, List.setIfInBounds_toArray, List.set_cons_zero, List.set_cons_succ]
  refine wpAnyH_take (i := 2) (v := ?_) rfl (by kernel_rfl) (by kernel_rfl) (by kernel_rfl) (fun _ _ _ h => h) (Or.inl ⟨by rfl, ?_⟩) hHeld ?_
  rotate_left
  · (intro w' hSw; (try dsimp only at hSw); go_simp <;> with_reducible rfl)
  simp only [List.getElem_toArray, List.getElem_cons_succ, List.getElem_cons_zero, Act.put, List.setIfInBounds_toArray, List.set_cons_zero, List.set_cons_succ]
  refine wpAnyH_take (i := 3) (v := ?_) rfl (by kernel_rfl) (by kernel_rfl) (by kernel_rfl) (fun _ _ _ h => h) (Or.inl ⟨by rfl, ?_⟩) hHeld ?_
  rotate_left
  · (intro w' hSw; (try dsimp only at hSw); go_simp <;> with_reducible rfl)
  simp only [List.getElem_toArray, List.getElem_cons_succ, List.getElem_cons_zero, Act.put, List.setIfInBounds_toArray, List.set_cons_zero, List.set_cons_succ]
  refine wpAnyH_take (i := 4) (v := ?_) rfl (by kernel_rfl) (by kernel_rfl) (by kernel_rfl) (fun _ _ _ h => h) (Or.inl ⟨by rfl, ?_⟩) hHeld ?_
  rotate_left
  · (intro w' hSw; (try dsimp only at hSw); go_simp <;> with_reducible rfl)
  simp only [List.getElem_toArray, List.getElem_cons_succ, List.getElem_cons_zero, Act.put, List.setIfInBounds_toArray, List.set_cons_zero, List.set_cons_succ]
  refine wpAnyH_take (i := 5) (v := ?_) rfl (by kernel_rfl) (by kernel_rfl) (by kernel_rfl) (fun _ _ _ h => h) (Or.inl ⟨by rfl, ?_⟩) hHeld ?_
  rotate_left
  · (intro w' hSw; (try dsimp only at hSw); go_simp <;> with_reducible rfl)
  simp only [List.getElem_toArray, List.getElem_cons_succ, List.getElem_cons_zero, Act.put, List.setIfInBounds_toArray, List.set_cons_zero, List.set_cons_succ]
  refine wpAnyH_take (i := 6) (v := ?_) rfl (by kernel_rfl) (by kernel_rfl) (by kernel_rfl) (fun _ _ _ h => h) (Or.inl ⟨by rfl, ?_⟩) hHeld ?_
  rotate_left
  · (intro w' hSw; (try dsimp only at hSw); go_simp <;> with_reducible rfl)
  simp only [List.getElem_toArray, List.getElem_cons_succ, List.getElem_cons_zero, Act.put, List.setIfInBounds_toArray, List.set_cons_zero, List.set_cons_succ]
  refine wpAnyH_take (i := 7) (v := ?_) rfl (by kernel_rfl) (by kernel_rfl) (by kernel_rfl) (fun _ _ _ h => h) (Or.inl ⟨by rfl, ?_⟩) hHeld ?_
  rotate_left
  · (intro w' hSw; (try dsimp only at hSw); go_simp <;> with_reducible rfl)
  simp only [List.getElem_toArray, List.getElem_cons_succ, List.getElem_cons_zero, Act.put, List.setIfInBounds_toArray, List.set_cons_zero, List.set_cons_succ]
  refine wpAnyH_take (i := 8) (v := ?_) rfl (by kernel_rfl) (by kernel_rfl) (by kernel_rfl) (fun _ _ _ h => h) (Or.inl ⟨by rfl, ?_⟩) hHeld ?_
  rotate_left
  · (intro w' hSw; (try dsimp only at hSw); go_simp <;> with_reducible rfl)
  simp only [List.getElem_toArray, List.getElem_cons_succ, List.getElem_cons_zero, Act.put, List.setIfInBounds_toArray, List.set_cons_zero, List.set_cons_succ]
  refine wpAnyH_take (i := 9) (v := ?_) rfl (by kernel_rfl) (by kernel_rfl) (by kernel_rfl) (fun _ _ _ h => h) (Or.inl ⟨by rfl, ?_⟩) hHeld ?_
  rotate_left
  · (intro w' hSw; (try dsimp only at hSw); go_simp <;> with_reducible rfl)
  simp only [List.getElem_toArray, List.getElem_cons_succ, List.getElem_cons_zero, Act.put, List.setIfInBounds_toArray, List.set_cons_zero, List.set_cons_succ]
  refine wpAnyH_take (i := 10) (v := ?_) rfl (by kernel_rfl) (by kernel_rfl) (by kernel_rfl) (fun _ _ _ h => h) (Or.inl ⟨by rfl, ?_⟩) hHeld ?_
  rotate_left
  · (intro w' hSw; (try dsimp only at hSw); go_simp <;> with_reducible rfl)
  simp only [List.getElem_toArray, List.getElem_cons_succ, List.getElem_cons_zero, Act.put, List.setIfInBounds_toArray, List.set_cons_zero, List.set_cons_succ]
  refine wpAnyH_ready (rs := [11]) (by kernel_rfl) (by simp) ?_
  refine AllReadyH.cons rfl (fun K hK => ?_) AllReadyH.nil
  go_simp
  go_at_call 39
  refine (sType_any k _ hk).mono ?_
  rintro e w3 ⟨rfl, hB3⟩
  have hB : Below w.heap.size w w3 := below_then H2.out.1 (below_drew (below_drew hB3))
  have k3 := Kept.of_below (S := []) hB
  refine hK.out _ _ ⟨k3.cell HX.out.2.2.1 (by simp), k3.cell HX.out.2.2.2.1 (by simp)⟩ (fun hHeld => ?_)
  clear hK K
  have H3 := Lib.hid (And.intro hB (H.out.2.below hB))
  clear hB hB3 k3 s1 s2 s3
  have a1 : IntKind.i64.wrap ((l : Int) + 3) = (l : Int) + 3 := wraps_i64 _ (by omega) (by omega)
  have a2 : ((l : Int) + 3).tdiv 4 = ((l : Int) + 3) / 4 := Int.tdiv_eq_ediv_of_nonneg (by omega)
  have a3 : IntKind.i64.wrap (((l : Int) + 3) / 4) = ((l : Int) + 3) / 4 := wraps_i64 _ (by omega) (by omega)
  have a4 : IntKind.i64.wrap (((l : Int) + 3) / 4 * 4) = ((l : Int) + 3) / 4 * 4 := wraps_i64 _ (by omega) (by omega)
  have a5 : IntKind.i64.wrap (4 + ((l : Int) + 3) / 4 * 4) = 4 + ((l : Int) + 3) / 4 * 4 := wraps_i64 _ (by omega) (by omega)
  refine wpAnyH_take (i := 12) (v := ?_) rfl (by kernel_rfl) (by kernel_rfl) (by kernel_rfl) (fun _ _ _ h => h) (Or.inl ⟨by rfl, ?_⟩) hHeld ?_
  rotate_left
  · (intro w' hSw; (try dsimp only at hSw); go_simp <;> with_reducible rfl)
  simp only [List.getElem_toArray, List.getElem_cons_succ, List.getElem_cons_zero, Act.put, List.setIfInBounds_toArray, List.set_cons_zero, List.set_cons_succ]
  refine wpAnyH_take (i := 13) (v := ?_) rfl (by kernel_rfl) (by kernel_rfl) (by kernel_rfl) (fun _ _ _ h => h) (Or.inl ⟨by rfl, ?_⟩) hHeld ?_
  rotate_left
  · (intro w' hSw; (try dsimp only at hSw); go_simp <;> with_reducible rfl)
  simp only [List.getElem_toArray, List.getElem_cons_succ, List.getElem_cons_zero, Act.put, List.setIfInBounds_toArray, List.set_cons_zero, List.set_cons_succ]
  refine wpAnyH_take (i := 14) (v := ?_) rfl (by kernel_rfl) (by kernel_rfl) (by kernel_rfl) (fun _ _ _ h => h) (Or.inl ⟨by rfl, ?_⟩) hHeld ?_
  rotate_left
  · (intro w' hSw; (try dsimp only at hSw); go_simp <;> with_reducible rfl)
  simp only [List.getElem_toArray, List.getElem_cons_succ, List.getElem_cons_zero, Act.put, List.setIfInBounds_toArray, List.set_cons_zero, List.set_cons_succ]
  refine wpAnyH_take (i := 15) (v := ?_) rfl (by kernel_rfl) (by kernel_rfl) (by kernel_rfl) (fun _ _ _ h => h) (Or.inl ⟨by rfl, ?_⟩) hHeld ?_
  rotate_left
  · (intro w' hSw; (try dsimp only at hSw); go_simp <;> with_reducible rfl)
  simp only [List.getElem_toArray, List.getElem_cons_succ, List.getElem_cons_zero, Act.put, List.setIfInBounds_toArray, List.set_cons_zero, List.set_cons_succ]
  refine wpAnyH_take (i := 16) (v := ?_) rfl (by kernel_rfl) (by kernel_rfl) (by kernel_rfl) (fun _ _ _ h => h) (Or.inl ⟨by rfl, ?_⟩) hHeld ?_
  rotate_left
  · (intro w' hSw; (try dsimp only at hSw); go_simp <;> with_reducible rfl)
  simp only [List.getElem_toArray, List.getElem_cons_succ, List.getElem_cons_zero, Act.put, List.setIfInBounds_toArray, List.set_cons_zero, List.set_cons_succ]
  refine wpAnyH_take (i := 17) (v := ?_) rfl (by kernel_rfl) (by kernel_rfl) (by kernel_rfl) (fun _ _ _ h => h) (Or.inl ⟨by rfl, ?_⟩) hHeld ?_
  rotate_left
  · (intro w' hSw; (try dsimp only at hSw); go_simp <;> with_reducible rfl)
  simp only [List.getElem_toArray, List.getElem_cons_succ, List.getElem_cons_zero, Act.put, List.setIfInBounds_toArray, List.set_cons_zero, List.set_cons_succ]
  refine wpAnyH_take (i := 18) (v := ?_) rfl (by kernel_rfl) (by kernel_rfl) (by kernel_rfl) (fun _ _ _ h => h) (Or.inl ⟨by rfl, ?_⟩) hHeld ?_
  rotate_left
  · (intro w' hSw; (try dsimp only at hSw); go_simp <;> with_reducible rfl)
  simp only [List.getElem_toArray, List.getElem_cons_succ, List.getElem_cons_zero, Act.put, List.setIfInBounds_toArray, List.set_cons_zero, List.set_cons_succ]
  refine wpAnyH_take (i := 19) (v := ?_) rfl (by kernel_rfl) (by kernel_rfl) (by kernel_rfl) (fun _ _ _ h => h) (Or.inl ⟨by rfl, ?_⟩) hHeld ?_
  rotate_left
  · (intro w' hSw; (try dsimp only at hSw); go_simp <;> with_reducible rfl)
  simp only [List.getElem_toArray, List.getElem_cons_succ, List.getElem_cons_zero, Act.put, List.setIfInBounds_toArray, List.set_cons_zero, List.set_cons_succ]
  refine wpAnyH_take (i := 20) (v := ?_) rfl (by kernel_rfl) (by kernel_rfl) (by kernel_rfl) (fun _ _ _ h => h) (Or.inl ⟨by rfl, ?_⟩) hHeld ?_
  rotate_left
  · (intro w' hSw; (try dsimp only at hSw); go_simp <;> with_reducible rfl)
  simp only [List.getElem_toArray, List.getElem_cons_succ, List.getElem_cons_zero, Act.put, List.setIfInBounds_toArray, List.set_cons_zero, List.set_cons_succ]
  refine wpAnyH_take (i := 21) (v := ?_) rfl (by kernel_rfl) (by kernel_rfl) (by kernel_rfl) (fun _ _ _ h => h) (Or.inl ⟨by rfl, ?_⟩) hHeld ?_
  rotate_left
  · (intro w' hSw; (try dsimp only at hSw); go_simp <;> with_reducible rfl)
  simp only [List.getElem_toArray, List.getElem_cons_succ, List.getElem_cons_zero, Act.put, List.setIfInBounds_toArray, List.set_cons_zero, List.set_cons_succ]
  refine wpAnyH_take (i := 22) (v := ?_) rfl (by kernel_rfl) (by kernel_rfl) (by kernel_rfl) (fun _ _ _ h => h) (Or.inl ⟨by rfl, ?_⟩) hHeld ?_
  rotate_left
  · (intro w' hSw; (try dsimp only at hSw); go_simp <;> with_reducible rfl)
  simp only [List.getElem_toArray, List.getElem_cons_succ, List.getElem_cons_zero, Act.put, List.setIfInBounds_toArray, List.set_cons_zero, List.set_cons_succ]
  refine wpAnyH_done (by kernel_rfl) ?_ _
  clear hHeld z20 z21 lb0 lb1 o3 tnb a1 a2 a3 a4 a5
  go_wp2_with fail
  go_ret2
  exact ⟨A24, _, rfl, by omega, H3.out.2, H3.out.1⟩
end Go.Proofs.Ythgghgejndncnaa
