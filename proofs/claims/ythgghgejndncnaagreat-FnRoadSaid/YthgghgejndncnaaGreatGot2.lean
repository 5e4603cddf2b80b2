/- 'impl.got': kind 2. -/
import Derived.Test.YthgghgejndncnaaGreatGot
namespace Go.Proofs.YthgghgejndncnaaGreat
open Go.RowKit
set_option linter.unusedSimpArgs false
set_option linter.unusedVariables false

set_option maxRecDepth 100000 in
set_option maxHeartbeats 4000000 in
theorem got_2_yes (g n : Nat) (N p : Int) (ax dx id : List Int) (w : World) (h : MsgHas w g 18 ([0, fam ax.length, x8 (p / 256 % 256) 33, x8 (p % 256) 18] ++ xorL ax (mask id)) id) (hP : 0 ≤ p ∧ p ≤ 65535) (hax : ax.length = n) (h416 : n = 4 ∨ n = 16) (hmp : n = 16 → mappedB ax = false) (hba : Bys ax) (hid : id.length = 12) (hbi : Bys id) :
    Calls Tryz.prog 21 #[.int .i64 2, .pointer (some ⟨g, 0, none⟩)] w fun e w' => GotYes 2 N ax p dx w e w' := by
  have HM0 := Lib.hid h
  have HYP := Lib.hid (And.intro hax (And.intro h416 (And.intro hmp (And.intro hba (And.intro hid hbi)))))
  clear hax hmp hba hid hbi
  have HB : Hid (Below w.heap.size w ((w.alloc (.cells #[.int .u32 0, .slice none 0 0, .int .i64 0, .slice none 0 0] 26)).alloc (.cells #[.slice none 0 0, .int .i64 0] 70))) := Lib.hid (below_then (below_alloc _ _) (below_alloc _ _))
  have H4 : Hid (((w.alloc (.cells #[.int .u32 0, .slice none 0 0, .int .i64 0, .slice none 0 0] 26)).alloc (.cells #[.slice none 0 0, .int .i64 0] 70)).heap[w.heap.size]? = some (.cells #[.int .u32 0, .slice none 0 0, .int .i64 0, .slice none 0 0] 26 (0, 0))) := Lib.hid (blk_alloc (heap_alloc_new w _) _)
  have H5 : Hid (((w.alloc (.cells #[.int .u32 0, .slice none 0 0, .int .i64 0, .slice none 0 0] 26)).alloc (.cells #[.slice none 0 0, .int .i64 0] 70)).heap[w.heap.size + 1]? = some (.cells #[.slice none 0 0, .int .i64 0] 70 (0, 0))) := Lib.hid (heap_at _ _ _ (by simp))
  have HM : Hid (MsgHas ((w.alloc (.cells #[.int .u32 0, .slice none 0 0, .int .i64 0, .slice none 0 0] 26)).alloc (.cells #[.slice none 0 0, .int .i64 0] 70)) g 18 ([0, fam ax.length, x8 (p / 256 % 256) 33, x8 (p % 256) 18] ++ xorL ax (mask id)) id) := Lib.hid (h.below HB.out)
  clear h
  go_enter Tryz.func21, Tryz.ntmps21
  go_wp2_with fail
  refine (gPeer_yes g (w.heap.size + 1) n p ax id w _ HM0.out HB.out H5.out (by omega) hP HYP.out.1 HYP.out.2.1 HYP.out.2.2.2.1 HYP.out.2.2.2.2.1 HYP.out.2.2.2.2.2).mono ?_
  rintro e w1 ⟨rfl, dd, h1, hR, hk1⟩
  obtain ⟨A, c, hAe, hce⟩ : ∃ (A : Option Addr) (c : Nat), A = some ⟨dd, 0, none⟩ ∧ c = n := ⟨_, _, rfl, rfl⟩
  replace h1 : w1.heap[w.heap.size + 1]? = some (.cells #[.slice A n c, .int .i64 p] 70 (0, 0)) := by rw [hAe, hce]; exact h1
  replace hR : Rd w1 A ax := by rw [hAe]; exact hR
  have hn := HYP.out.1
  clear hAe hce
  have b4' := blk_kept H4.out hk1 (by simp)
  have H1 := Lib.hid (And.intro b4' ((Kept.of_below (S := []) HB.out).trans hk1 (T := [w.heap.size + 1]) (fun t ht => by simp at ht; subst ht; exact .inr (by omega))))
  have HR := Lib.hid hR
  have HN := Lib.hid hn
  have HX := Lib.hid h1
  have hnb : n ≤ 1000 := by first | omega | (simp at hn; omega)
  clear b4' hk1 h1 hR hn
  go_upto_region 15 with fail
  refine wp_region_held_drew (S := fun w' => w'.cell? ⟨w.heap.size + 1, 0, none⟩ = some (.slice A n c) ∧ w'.cell? ⟨w.heap.size + 1, 1, none⟩ = some (.int .i64 p)) (by kernel_rfl) ⟨(blk_cell HX.out 0).trans rfl, (blk_cell HX.out 1).trans rfl⟩ (fun hHeld => ?_)
  refine wpAnyH_take (i := 0) (v := ?_) rfl (by kernel_rfl) (by kernel_rfl) (by kernel_rfl) (fun _ _ _ h => h) (Or.inl ⟨by rfl, ?_⟩) hHeld ?_
  rotate_left
  · (intro w' hSw; (try dsimp only at hSw); go_simp <;> with_reducible rfl)
  simp only [List.getElem_toArray, List.getElem_cons_succ, List.getElem_cons_zero, Act.put, List.setIfInBounds_toArray, List.set_cons_zero, List.set_cons_succ]
  refine wpAnyH_take (i := 1) (v := ?_) rfl (by kernel_rfl) (by kernel_rfl) (by kernel_rfl) (fun _ _ _ h => h) (Or.inl ⟨by rfl, ?_⟩) hHeld ?_
  rotate_left
  · (intro w' hSw; (try dsimp only at hSw); go_simp <;> with_reducible rfl)
  simp only [List.getElem_toArray, List.getElem_cons_succ, List.getElem_cons_zero, Act.put, List.setIfInBounds_toArray, List.set_cons_zero, List.set_cons_succ]
  refine wpAnyH_take (i := 3) (v := ?_) rfl (by kernel_rfl) (by kernel_rfl) (by kernel_rfl) (fun _ _ _ h => h) (Or.inl ⟨by rfl, ?_⟩) hHeld ?_
  rotate_left
  · (intro w' hSw; (try dsimp only at hSw); go_simp <;> with_reducible rfl)
  simp only [List.getElem_toArray, List.getElem_cons_succ, List.getElem_cons_zero, Act.put, List.setIfInBounds_toArray, List.set_cons_zero, List.set_cons_succ]
  refine wpAnyH_take (i := 4) (v := ?_) rfl (by kernel_rfl) (by kernel_rfl) (by kernel_rfl) (fun _ _ _ h => h) (Or.inl ⟨by rfl, ?_⟩) hHeld ?_
  rotate_left
  · (intro w' hSw; (try dsimp only at hSw); go_simp <;> with_reducible rfl)
  simp only [List.getElem_toArray, List.getElem_cons_succ, List.getElem_cons_zero, Act.put, List.setIfInBounds_toArray, List.set_cons_zero, List.set_cons_succ]
  refine wpAnyH_ready (rs := [2]) (by kernel_rfl) (by simp) ?_
  refine AllReadyH.cons rfl (fun K hK => ?_) AllReadyH.nil
  go_simp
  go_at_call 35
  refine (cloneIP_any A n c ax _ HN.out (by omega) ?_).mono ?_
  exact HR.out
  rintro e w2 ⟨v2, rfl, hown2, hB2'⟩
  have hB2 := below_drew hB2'
  have b42 := blk_below H1.out.1 hB2
  have hx2 := blk_below HX.out hB2
  obtain ⟨-, A2, c2, rfl, hc2, hcm2, hR2⟩ := own_rd hown2
  have hA2 : ∀ a, A2 = some a → a.block ≠ w.heap.size := fun a e => by subst e; have := (hown2.lt a.block rfl).1; have := H1.out.2.size; have := blk_lt H1.out.1; simp at *; omega
  refine hK.out _ _ ⟨(blk_cell hx2 0).trans rfl, (blk_cell hx2 1).trans rfl⟩ (fun hHeld => ?_)
  clear hK K
  have hk2 : Kept [] w w2 := H1.out.2.then_below (hB2.mono H1.out.2.size)
  clear hB2 hB2' hown2
  obtain ⟨q40, q41, q42, q43⟩ := cells4 b42
  have f41 := blk_free b42 1
  have f42 := blk_free b42 2
  have hne : w.heap.size ≠ w.heap.size + 1 := by omega
  have HF := Lib.hid (And.intro b42 (And.intro hx2 (And.intro hR2 (And.intro hA2 hk2))))
  clear b42 hx2 hR2 hA2 hk2
  refine wpAnyH_take (i := 5) (v := ?_) rfl (by kernel_rfl) (by kernel_rfl) (by kernel_rfl) (fun _ _ _ h => h) (Or.inl ⟨by rfl, ?_⟩) hHeld ?_
  rotate_left
  · (intro w' hSw; (try dsimp only at hSw); go_simp <;> with_reducible rfl)
  simp only [List.getElem_toArray, List.getElem_cons_succ, List.getElem_cons_zero, Act.put, List.setIfInBounds_toArray, List.set_cons_zero, List.set_cons_succ]
  refine wpAnyH_ready (rs := [6]) (by kernel_rfl) (by simp) ?_
  refine AllReadyH.cons rfl (fun K hK => ?_) AllReadyH.nil
  go_simp
  have hx3 := blk_far (p := ⟨w.heap.size, 1, none⟩) HF.out.2.1 (by simp) (.slice A2 n c2)
  have b43 := blk_set HF.out.1 1 (.slice A2 n c2)
  have q42' : (w2.setCell ⟨w.heap.size, 1, none⟩ (.slice A2 n c2)).cell? ⟨w.heap.size, 2, none⟩ = some (.int .i64 0) := (blk_cell b43 2).trans rfl
  have f42' := blk_free b43 2
  refine hK.out _ _ ⟨(blk_cell hx3 0).trans rfl, (blk_cell hx3 1).trans rfl⟩ (fun hHeld => ?_)
  clear hK K
  refine wpAnyH_take (i := 7) (v := ?_) rfl (by kernel_rfl) (by kernel_rfl) (by kernel_rfl) (fun _ _ _ h => h) (Or.inl ⟨by rfl, ?_⟩) hHeld ?_
  rotate_left
  · (intro w' hSw; (try dsimp only at hSw); go_simp <;> with_reducible rfl)
  simp only [List.getElem_toArray, List.getElem_cons_succ, List.getElem_cons_zero, Act.put, List.setIfInBounds_toArray, List.set_cons_zero, List.set_cons_succ]
  refine wpAnyH_ready (rs := [8]) (by kernel_rfl) (by simp) ?_
  refine AllReadyH.cons rfl (fun K hK => ?_) AllReadyH.nil
  go_simp
  have hx4 := blk_far (p := ⟨w.heap.size, 2, none⟩) hx3 (by simp) (.int .i64 p)
  have b44 := blk_set b43 2 (.int .i64 p)
  refine hK.out _ _ ⟨(blk_cell hx4 0).trans rfl, (blk_cell hx4 1).trans rfl⟩ (fun hHeld => ?_)
  clear hK K hHeld
  refine wpAnyH_done (by kernel_rfl) ?_ _
  have hb2 : Hid (((w2.setCell ⟨w.heap.size, 1, none⟩ (.slice A2 n c2)).setCell ⟨w.heap.size, 2, none⟩ (.int .i64 p)).heap[w.heap.size]? = some (.cells #[.int .u32 0, .slice A2 n c2, .int .i64 p, .slice none 0 0] 26 (0, 0))) := Lib.hid b44
  have hk2 : Hid (Kept [] w ((w2.setCell ⟨w.heap.size, 1, none⟩ (.slice A2 n c2)).setCell ⟨w.heap.size, 2, none⟩ (.int .i64 p))) := Lib.hid ((HF.out.2.2.2.2.setCell (.inr (by simp)) _).setCell (.inr (by simp)) _)
  have hR3 : Hid (Rd ((w2.setCell ⟨w.heap.size, 1, none⟩ (.slice A2 n c2)).setCell ⟨w.heap.size, 2, none⟩ (.int .i64 p)) A2 ax) := Lib.hid ((HF.out.2.2.1.setCell _ _ (fun a e => HF.out.2.2.2.1 a e)).setCell _ _ (fun a e => HF.out.2.2.2.1 a e))
  have hc2' : Hid (n ≤ c2 ∧ ∀ a, A2 = some a → a.block ≠ w.heap.size) := Lib.hid ⟨hc2, HF.out.2.2.2.1⟩
  clear hx3 b43 q42' f42' hx4 b44 HF q40 q41 q42 q43 f41 f42 hc2
  generalize hW2 : (w2.setCell ⟨w.heap.size, 1, none⟩ (.slice A2 n c2)).setCell ⟨w.heap.size, 2, none⟩ (.int .i64 p) = W2 at *
  clear hW2
  go_upto_region 48 with fail
  go_cut [5] (fun v5 wx => v5 = .bool true ∧ Hid (wx.heap[w.heap.size]? = some (.cells #[.int .u32 0, .slice A2 n c2, .int .i64 p, .slice none 0 0] 26 (0, 0))) ∧ Hid (Kept [w.heap.size] W2 wx))
  case first =>
    have hq := cells4 hb2.out
    have f40 := blk_free hb2.out 0
    have f41 := blk_free hb2.out 1
    have f42 := blk_free hb2.out 2
    have f43 := blk_free hb2.out 3
    refine wp_region_held_drew (S := fun w' => w'.cell? ⟨w.heap.size, 0, none⟩ = some (.int .u32 0) ∧ w'.cell? ⟨w.heap.size, 1, none⟩ = some (.slice A2 n c2) ∧ w'.cell? ⟨w.heap.size, 2, none⟩ = some (.int .i64 p) ∧ w'.cell? ⟨w.heap.size, 3, none⟩ = some (.slice none 0 0)) (by kernel_rfl) hq (fun hHeld => ?_)
    obtain ⟨q40, q41, q42, q43⟩ := hq
    refine wpAnyH_take (i := 0) (v := ?_) rfl (by kernel_rfl) (by kernel_rfl) (by kernel_rfl) (fun _ _ _ h => h) (Or.inl ⟨by rfl, ?_⟩) hHeld ?_
    rotate_left
    · (intro w' hSw; (try dsimp only at hSw); go_simp <;> with_reducible rfl)
    simp only [List.getElem_toArray, List.getElem_cons_succ, List.getElem_cons_zero, Act.put, List.setIfInBounds_toArray, List.set_cons_zero, List.set_cons_succ]
    refine wpAnyH_take (i := 1) (v := ?_) rfl (by kernel_rfl) (by kernel_rfl) (by kernel_rfl) (fun _ _ _ h => h) (Or.inl ⟨by rfl, ?_⟩) hHeld ?_
    rotate_left
    · (intro w' hSw; (try dsimp only at hSw); go_simp <;> with_reducible rfl)
    simp only [List.getElem_toArray, List.getElem_cons_succ, List.getElem_cons_zero, Act.put, List.setIfInBounds_toArray, List.set_cons_zero, List.set_cons_succ]
    refine wpAnyH_take (i := 2) (v := ?_) rfl (by kernel_rfl) (by kernel_rfl) (by kernel_rfl) (fun _ _ _ h => h) (Or.inl ⟨by rfl, ?_⟩) hHeld ?_
    rotate_left
    · (intro w' hSw; (try dsimp only at hSw); go_simp <;> with_reducible rfl)
    simp only [List.getElem_toArray, List.getElem_cons_succ, List.getElem_cons_zero, Act.put, List.setIfInBounds_toArray, List.set_cons_zero, List.set_cons_succ]
    refine wpAnyH_ready (rs := [3]) (by kernel_rfl) (by simp) ?_
    refine AllReadyH.cons rfl (fun K hK => ?_) AllReadyH.nil
    go_simp
    have hb3 := blk_set (blk_set (blk_set (blk_set hb2.out 0 (.int .u32 0)) 1 (.slice A2 n c2)) 2 (.int .i64 p)) 3 (.slice none 0 0)
    have hk3 : Kept [w.heap.size] W2 ((((W2.setCell ⟨w.heap.size, 0, none⟩ (.int .u32 0)).setCell ⟨w.heap.size, 1, none⟩ (.slice A2 n c2)).setCell ⟨w.heap.size, 2, none⟩ (.int .i64 p)).setCell ⟨w.heap.size, 3, none⟩ (.slice none 0 0)) :=
      ((((Kept.refl [w.heap.size] W2).setCell (.inl (by simp)) _).setCell (.inl (by simp)) _).setCell (.inl (by simp)) _).setCell (.inl (by simp)) _
    have HB3 := Lib.hid hb3
    have HK3 := Lib.hid hk3
    have hc3 := cells4 hb3
    clear hb3 hk3
    refine hK.out _ _ hc3 (fun hHeld => ?_)
    clear hK K hc3
    refine wpAnyH_take (i := 4) (v := ?_) rfl (by kernel_rfl) (by kernel_rfl) (by kernel_rfl) (fun _ _ _ h => h) (Or.inl ⟨by rfl, ?_⟩) hHeld ?_
    rotate_left
    · (intro w' hSw; (try dsimp only at hSw); go_simp <;> with_reducible rfl)
    simp only [List.getElem_toArray, List.getElem_cons_succ, List.getElem_cons_zero, Act.put, List.setIfInBounds_toArray, List.set_cons_zero, List.set_cons_succ]
    refine wpAnyH_done (by kernel_rfl) ?_ _
    clear hHeld q40 q41 q42 q43 f40 f41 f42 f43
    go_wp2_with fail
    go_meet
    exact ⟨rfl, HB3, Lib.hid HK3.out.drew⟩
  case rest =>
  obtain ⟨rfl, hb4, hk4⟩ := hcut
  obtain ⟨q40, q41, q42, q43⟩ := cells4 hb4.out
  clear hb2
  go_wp2_with fail
  have hfin : Below w.heap.size w wc := (hk2.out.trans hk4.out (fun t ht => by simp at ht; subst ht; exact .inr (Nat.le_refl _))).toBelow
  have hR4 : Rd wc A2 ax := hR3.out.kept hk4.out (fun a e => by simpa using hc2'.out.2 a e)
  refine bodyPost_ret (v := .tuple #[atV 0 A2 n c2 p none 0 0, .bool true]) (by simp [results, Tryz.results21, go_sem, *]) rfl ?_
  refine ⟨_, 0, ax, p, [], rfl, ⟨A2, n, c2, none, 0, 0, rfl, HYP.out.1, hc2'.out.1, hR4, rfl, Nat.le_refl _, Rd.nil _ _, by omega⟩, ?_, by simp [valB], hfin⟩
  have hl := HYP.out.1
  have hm := HYP.out.2.2.1
  rcases h416 with h4 | h4
  · simp [properB, hl, h4]; omega
  · simp [properB, hl, h4, hm h4]; omega

set_option maxRecDepth 100000 in
set_option maxHeartbeats 4000000 in
theorem got_2_no (g : Nat) (t : Int) (v id : List Int) (w : World) (h : MsgHas w g t v id) (ht : t ≠ 18) :
    Calls Tryz.prog 21 #[.int .i64 2, .pointer (some ⟨g, 0, none⟩)] w fun e w' => ∃ N' aA an ac P' dA dn dc, e = .returned (.tuple #[atV N' aA an ac P' dA dn dc, .bool false]) ∧ Below w.heap.size w w' := by
  have HB : Hid (Below w.heap.size w ((w.alloc (.cells #[.int .u32 0, .slice none 0 0, .int .i64 0, .slice none 0 0] 26)).alloc (.cells #[.slice none 0 0, .int .i64 0] 70))) := Lib.hid (below_then (below_alloc _ _) (below_alloc _ _))
  have H4 : Hid (((w.alloc (.cells #[.int .u32 0, .slice none 0 0, .int .i64 0, .slice none 0 0] 26)).alloc (.cells #[.slice none 0 0, .int .i64 0] 70)).heap[w.heap.size]? = some (.cells #[.int .u32 0, .slice none 0 0, .int .i64 0, .slice none 0 0] 26 (0, 0))) := Lib.hid (blk_alloc (heap_alloc_new w _) _)
  have H5 : Hid (((w.alloc (.cells #[.int .u32 0, .slice none 0 0, .int .i64 0, .slice none 0 0] 26)).alloc (.cells #[.slice none 0 0, .int .i64 0] 70)).heap[w.heap.size + 1]? = some (.cells #[.slice none 0 0, .int .i64 0] 70 (0, 0))) := Lib.hid (heap_at _ _ _ (by simp))
  have HM : Hid (MsgHas ((w.alloc (.cells #[.int .u32 0, .slice none 0 0, .int .i64 0, .slice none 0 0] 26)).alloc (.cells #[.slice none 0 0, .int .i64 0] 70)) g t v id) := Lib.hid (h.below HB.out)
  clear h
  go_enter Tryz.func21, Tryz.ntmps21
  go_wp2_with fail
  refine (gPeer_no g (w.heap.size + 1) t v id _ HM.out ht).mono ?_
  rintro e w1 ⟨u, x, rfl, hB1⟩
  obtain ⟨A, n, c, p, hAe, hnz, hnl, hpe⟩ : ∃ (A : Option Addr) (n c : Nat) (p : Int), A = none ∧ n = 0 ∧ c = 0 ∧ p = 0 := ⟨_, _, _, _, rfl, rfl, rfl, rfl⟩
  have h1 : w1.heap[w.heap.size + 1]? = some (.cells #[.slice A n c, .int .i64 p] 70 (0, 0)) := by rw [hAe, hnz, hnl, hpe]; exact blk_below H5.out hB1
  have hn : ([] : List Int).length = n := hnz.symm
  have hR : Rd w1 A [] := Rd.nil _ _
  have hk1 := Kept.of_below (S := [w.heap.size + 1]) hB1
  clear hB1 hAe hnl hnz hpe
  have b4' := blk_kept H4.out hk1 (by simp)
  have H1 := Lib.hid (And.intro b4' ((Kept.of_below (S := []) HB.out).trans hk1 (T := [w.heap.size + 1]) (fun t ht => by simp at ht; subst ht; exact .inr (by omega))))
  have HR := Lib.hid hR
  have HN := Lib.hid hn
  have HX := Lib.hid h1
  have hnb : n ≤ 1000 := by first | omega | (simp at hn; omega)
  clear b4' hk1 h1 hR hn
  go_upto_region 15 with fail
  refine wp_region_held_drew (S := fun w' => w'.cell? ⟨w.heap.size + 1, 0, none⟩ = some (.slice A n c) ∧ w'.cell? ⟨w.heap.size + 1, 1, none⟩ = some (.int .i64 p)) (by kernel_rfl) ⟨(blk_cell HX.out 0).trans rfl, (blk_cell HX.out 1).trans rfl⟩ (fun hHeld => ?_)
  refine wpAnyH_take (i := 0) (v := ?_) rfl (by kernel_rfl) (by kernel_rfl) (by kernel_rfl) (fun _ _ _ h => h) (Or.inl ⟨by rfl, ?_⟩) hHeld ?_
  rotate_left
  · (intro w' hSw; (try dsimp only at hSw); go_simp <;> with_reducible rfl)
  simp only [List.getElem_toArray, List.getElem_cons_succ, List.getElem_cons_zero, Act.put, List.setIfInBounds_toArray, List.set_cons_zero, List.set_cons_succ]
  refine wpAnyH_take (i := 1) (v := ?_) rfl (by kernel_rfl) (by kernel_rfl) (by kernel_rfl) (fun _ _ _ h => h) (Or.inl ⟨by rfl, ?_⟩) hHeld ?_
  rotate_left
  · (intro w' hSw; (try dsimp only at hSw); go_simp <;> with_reducible rfl)
  simp only [List.getElem_toArray, List.getElem_cons_succ, List.getElem_cons_zero, Act.put, List.setIfInBounds_toArray, List.set_cons_zero, List.set_cons_succ]
  refine wpAnyH_take (i := 3) (v := ?_) rfl (by kernel_rfl) (by kernel_rfl) (by kernel_rfl) (fun _ _ _ h => h) (Or.inl ⟨by rfl, ?_⟩) hHeld ?_
  rotate_left
  · (intro w' hSw; (try dsimp only at hSw); go_simp <;> with_reducible rfl)
  simp only [List.getElem_toArray, List.getElem_cons_succ, List.getElem_cons_zero, Act.put, List.setIfInBounds_toArray, List.set_cons_zero, List.set_cons_succ]
  refine wpAnyH_take (i := 4) (v := ?_) rfl (by kernel_rfl) (by kernel_rfl) (by kernel_rfl) (fun _ _ _ h => h) (Or.inl ⟨by rfl, ?_⟩) hHeld ?_
  rotate_left
  · (intro w' hSw; (try dsimp only at hSw); go_simp <;> with_reducible rfl)
  simp only [List.getElem_toArray, List.getElem_cons_succ, List.getElem_cons_zero, Act.put, List.setIfInBounds_toArray, List.set_cons_zero, List.set_cons_succ]
  refine wpAnyH_ready (rs := [2]) (by kernel_rfl) (by simp) ?_
  refine AllReadyH.cons rfl (fun K hK => ?_) AllReadyH.nil
  go_simp
  go_at_call 35
  refine (cloneIP_any A n c [] _ HN.out (by omega) ?_).mono ?_
  exact HR.out
  rintro e w2 ⟨v2, rfl, hown2, hB2'⟩
  have hB2 := below_drew hB2'
  have b42 := blk_below H1.out.1 hB2
  have hx2 := blk_below HX.out hB2
  obtain ⟨-, A2, c2, rfl, hc2, hcm2, hR2⟩ := own_rd hown2
  have hA2 : ∀ a, A2 = some a → a.block ≠ w.heap.size := fun a e => by subst e; have := (hown2.lt a.block rfl).1; have := H1.out.2.size; have := blk_lt H1.out.1; simp at *; omega
  refine hK.out _ _ ⟨(blk_cell hx2 0).trans rfl, (blk_cell hx2 1).trans rfl⟩ (fun hHeld => ?_)
  clear hK K
  have hk2 : Kept [] w w2 := H1.out.2.then_below (hB2.mono H1.out.2.size)
  clear hB2 hB2' hown2
  obtain ⟨q40, q41, q42, q43⟩ := cells4 b42
  have f41 := blk_free b42 1
  have f42 := blk_free b42 2
  have hne : w.heap.size ≠ w.heap.size + 1 := by omega
  have HF := Lib.hid (And.intro b42 (And.intro hx2 (And.intro hR2 (And.intro hA2 hk2))))
  clear b42 hx2 hR2 hA2 hk2
  refine wpAnyH_take (i := 5) (v := ?_) rfl (by kernel_rfl) (by kernel_rfl) (by kernel_rfl) (fun _ _ _ h => h) (Or.inl ⟨by rfl, ?_⟩) hHeld ?_
  rotate_left
  · (intro w' hSw; (try dsimp only at hSw); go_simp <;> with_reducible rfl)
  simp only [List.getElem_toArray, List.getElem_cons_succ, List.getElem_cons_zero, Act.put, List.setIfInBounds_toArray, List.set_cons_zero, List.set_cons_succ]
  refine wpAnyH_ready (rs := [6]) (by kernel_rfl) (by simp) ?_
  refine AllReadyH.cons rfl (fun K hK => ?_) AllReadyH.nil
  go_simp
  have hx3 := blk_far (p := ⟨w.heap.size, 1, none⟩) HF.out.2.1 (by simp) (.slice A2 n c2)
  have b43 := blk_set HF.out.1 1 (.slice A2 n c2)
  have q42' : (w2.setCell ⟨w.heap.size, 1, none⟩ (.slice A2 n c2)).cell? ⟨w.heap.size, 2, none⟩ = some (.int .i64 0) := (blk_cell b43 2).trans rfl
  have f42' := blk_free b43 2
  refine hK.out _ _ ⟨(blk_cell hx3 0).trans rfl, (blk_cell hx3 1).trans rfl⟩ (fun hHeld => ?_)
  clear hK K
  refine wpAnyH_take (i := 7) (v := ?_) rfl (by kernel_rfl) (by kernel_rfl) (by kernel_rfl) (fun _ _ _ h => h) (Or.inl ⟨by rfl, ?_⟩) hHeld ?_
  rotate_left
  · (intro w' hSw; (try dsimp only at hSw); go_simp <;> with_reducible rfl)
  simp only [List.getElem_toArray, List.getElem_cons_succ, List.getElem_cons_zero, Act.put, List.setIfInBounds_toArray, List.set_cons_zero, List.set_cons_succ]
  refine wpAnyH_ready (rs := [8]) (by kernel_rfl) (by simp) ?_
  refine AllReadyH.cons rfl (fun K hK => ?_) AllReadyH.nil
  go_simp
  have hx4 := blk_far (p := ⟨w.heap.size, 2, none⟩) hx3 (by simp) (.int .i64 p)
  have b44 := blk_set b43 2 (.int .i64 p)
  refine hK.out _ _ ⟨(blk_cell hx4 0).trans rfl, (blk_cell hx4 1).trans rfl⟩ (fun hHeld => ?_)
  clear hK K hHeld
  refine wpAnyH_done (by kernel_rfl) ?_ _
  have hb2 : Hid (((w2.setCell ⟨w.heap.size, 1, none⟩ (.slice A2 n c2)).setCell ⟨w.heap.size, 2, none⟩ (.int .i64 p)).heap[w.heap.size]? = some (.cells #[.int .u32 0, .slice A2 n c2, .int .i64 p, .slice none 0 0] 26 (0, 0))) := Lib.hid b44
  have hk2 : Hid (Kept [] w ((w2.setCell ⟨w.heap.size, 1, none⟩ (.slice A2 n c2)).setCell ⟨w.heap.size, 2, none⟩ (.int .i64 p))) := Lib.hid ((HF.out.2.2.2.2.setCell (.inr (by simp)) _).setCell (.inr (by simp)) _)
  have hR3 : Hid (Rd ((w2.setCell ⟨w.heap.size, 1, none⟩ (.slice A2 n c2)).setCell ⟨w.heap.size, 2, none⟩ (.int .i64 p)) A2 []) := Lib.hid ((HF.out.2.2.1.setCell _ _ (fun a e => HF.out.2.2.2.1 a e)).setCell _ _ (fun a e => HF.out.2.2.2.1 a e))
  have hc2' : Hid (n ≤ c2 ∧ ∀ a, A2 = some a → a.block ≠ w.heap.size) := Lib.hid ⟨hc2, HF.out.2.2.2.1⟩
  clear hx3 b43 q42' f42' hx4 b44 HF q40 q41 q42 q43 f41 f42 hc2
  generalize hW2 : (w2.setCell ⟨w.heap.size, 1, none⟩ (.slice A2 n c2)).setCell ⟨w.heap.size, 2, none⟩ (.int .i64 p) = W2 at *
  clear hW2
  go_upto_region 48 with fail
  go_cut [5] (fun v5 wx => v5 = .bool false ∧ Hid (wx.heap[w.heap.size]? = some (.cells #[.int .u32 0, .slice A2 n c2, .int .i64 p, .slice none 0 0] 26 (0, 0))) ∧ Hid (Kept [w.heap.size] W2 wx))
  case first =>
    have hq := cells4 hb2.out
    have f40 := blk_free hb2.out 0
    have f41 := blk_free hb2.out 1
    have f42 := blk_free hb2.out 2
    have f43 := blk_free hb2.out 3
    refine wp_region_held_drew (S := fun w' => w'.cell? ⟨w.heap.size, 0, none⟩ = some (.int .u32 0) ∧ w'.cell? ⟨w.heap.size, 1, none⟩ = some (.slice A2 n c2) ∧ w'.cell? ⟨w.heap.size, 2, none⟩ = some (.int .i64 p) ∧ w'.cell? ⟨w.heap.size, 3, none⟩ = some (.slice none 0 0)) (by kernel_rfl) hq (fun hHeld => ?_)
    obtain ⟨q40, q41, q42, q43⟩ := hq
    refine wpAnyH_take (i := 0) (v := ?_) rfl (by kernel_rfl) (by kernel_rfl) (by kernel_rfl) (fun _ _ _ h => h) (Or.inl ⟨by rfl, ?_⟩) hHeld ?_
    rotate_left
    · (intro w' hSw; (try dsimp only at hSw); go_simp <;> with_reducible rfl)
    simp only [List.getElem_toArray, List.getElem_cons_succ, List.getElem_cons_zero, Act.put, List.setIfInBounds_toArray, List.set_cons_zero, List.set_cons_succ]
    refine wpAnyH_take (i := 1) (v := ?_) rfl (by kernel_rfl) (by kernel_rfl) (by kernel_rfl) (fun _ _ _ h => h) (Or.inl ⟨by rfl, ?_⟩) hHeld ?_
    rotate_left
    · (intro w' hSw; (try dsimp only at hSw); go_simp <;> with_reducible rfl)
    simp only [List.getElem_toArray, List.getElem_cons_succ, List.getElem_cons_zero, Act.put, List.setIfInBounds_toArray, List.set_cons_zero, List.set_cons_succ]
    refine wpAnyH_take (i := 2) (v := ?_) rfl (by kernel_rfl) (by kernel_rfl) (by kernel_rfl) (fun _ _ _ h => h) (Or.inl ⟨by rfl, ?_⟩) hHeld ?_
    rotate_left
    · (intro w' hSw; (try dsimp only at hSw); go_simp <;> with_reducible rfl)
    simp only [List.getElem_toArray, List.getElem_cons_succ, List.getElem_cons_zero, Act.put, List.setIfInBounds_toArray, List.set_cons_zero, List.set_cons_succ]
    refine wpAnyH_ready (rs := [3]) (by kernel_rfl) (by simp) ?_
    refine AllReadyH.cons rfl (fun K hK => ?_) AllReadyH.nil
    go_simp
    have hb3 := blk_set (blk_set (blk_set (blk_set hb2.out 0 (.int .u32 0)) 1 (.slice A2 n c2)) 2 (.int .i64 p)) 3 (.slice none 0 0)
    have hk3 : Kept [w.heap.size] W2 ((((W2.setCell ⟨w.heap.size, 0, none⟩ (.int .u32 0)).setCell ⟨w.heap.size, 1, none⟩ (.slice A2 n c2)).setCell ⟨w.heap.size, 2, none⟩ (.int .i64 p)).setCell ⟨w.heap.size, 3, none⟩ (.slice none 0 0)) :=
      ((((Kept.refl [w.heap.size] W2).setCell (.inl (by simp)) _).setCell (.inl (by simp)) _).setCell (.inl (by simp)) _).setCell (.inl (by simp)) _
    have HB3 := Lib.hid hb3
    have HK3 := Lib.hid hk3
    have hc3 := cells4 hb3
    clear hb3 hk3
    refine hK.out _ _ hc3 (fun hHeld => ?_)
    clear hK K hc3
    refine wpAnyH_take (i := 4) (v := ?_) rfl (by kernel_rfl) (by kernel_rfl) (by kernel_rfl) (fun _ _ _ h => h) (Or.inl ⟨by rfl, ?_⟩) hHeld ?_
    rotate_left
    · (intro w' hSw; (try dsimp only at hSw); go_simp <;> with_reducible rfl)
    simp only [List.getElem_toArray, List.getElem_cons_succ, List.getElem_cons_zero, Act.put, List.setIfInBounds_toArray, List.set_cons_zero, List.set_cons_succ]
    refine wpAnyH_done (by kernel_rfl) ?_ _
    clear hHeld q40 q41 q42 q43 f40 f41 f42 f43
    go_wp2_with fail
    go_meet
    exact ⟨rfl, HB3, Lib.hid HK3.out.drew⟩
  case rest =>
  obtain ⟨rfl, hb4, hk4⟩ := hcut
  obtain ⟨q40, q41, q42, q43⟩ := cells4 hb4.out
  clear hb2
  go_wp2_with fail
  have hfin : Below w.heap.size w wc := (hk2.out.trans hk4.out (fun t ht => by simp at ht; subst ht; exact .inr (Nat.le_refl _))).toBelow
  have hR4 : Rd wc A2 [] := hR3.out.kept hk4.out (fun a e => by simpa using hc2'.out.2 a e)
  refine bodyPost_ret (v := .tuple #[atV 0 A2 n c2 p none 0 0, .bool false]) (by simp [results, Tryz.results21, go_sem, *]) rfl ?_
  exact ⟨_, _, _, _, _, _, _, _, rfl, hfin⟩

end Go.Proofs.YthgghgejndncnaaGreat
