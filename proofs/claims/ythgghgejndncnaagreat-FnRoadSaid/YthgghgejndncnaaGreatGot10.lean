/- 'impl.got': kind 10. -/
import Derived.Test.YthgghgejndncnaaGreatGot
namespace Go.Proofs.YthgghgejndncnaaGreat
open Go.RowKit
set_option linter.unusedSimpArgs false
set_option linter.unusedVariables false

set_option maxRecDepth 100000 in
set_option maxHeartbeats 4000000 in
theorem got_10_yes (g : Nat) (N P : Int) (ax dx id : List Int) (w : World) (h : MsgHas w g 42 (put4 N) id) (hN : 0 ≤ N ∧ N ≤ 4294967295) :
    Calls Tryz.prog 21 #[.int .i64 10, .pointer (some ⟨g, 0, none⟩)] w fun e w' => GotYes 10 N ax P dx w e w' := by
  have HB : Hid (Below w.heap.size w ((w.alloc (.cells #[.int .u32 0, .slice none 0 0, .int .i64 0, .slice none 0 0] 26)).alloc (.cells #[.int .u32 0] 82))) := Lib.hid (below_then (below_alloc _ _) (below_alloc _ _))
  have H4 : Hid (((w.alloc (.cells #[.int .u32 0, .slice none 0 0, .int .i64 0, .slice none 0 0] 26)).alloc (.cells #[.int .u32 0] 82)).heap[w.heap.size]? = some (.cells #[.int .u32 0, .slice none 0 0, .int .i64 0, .slice none 0 0] 26 (0, 0))) := Lib.hid (blk_alloc (heap_alloc_new w _) _)
  have H5 : Hid (((w.alloc (.cells #[.int .u32 0, .slice none 0 0, .int .i64 0, .slice none 0 0] 26)).alloc (.cells #[.int .u32 0] 82)).heap[w.heap.size + 1]? = some (.cells #[.int .u32 0] 82 (0, 0))) := Lib.hid (heap_at _ _ _ (by simp))
  have HM : Hid (MsgHas ((w.alloc (.cells #[.int .u32 0, .slice none 0 0, .int .i64 0, .slice none 0 0] 26)).alloc (.cells #[.int .u32 0] 82)) g 42 [N / 256 / 256 / 256, N / 256 / 256 % 256, N / 256 % 256, N % 256] id) := Lib.hid (h.below HB.out)
  clear h
  go_enter Tryz.func21, Tryz.ntmps21
  go_wp2_with fail
  refine (gConnection_yes g (w.heap.size + 1) (N / 256 / 256 / 256) (N / 256 / 256 % 256) (N / 256 % 256) (N % 256) id _ HM.out H5.out (by omega) (by omega) (by omega) (by omega)).mono ?_
  rintro e w1 ⟨rfl, h1, hk1⟩
  rw [show N / 256 / 256 / 256 * 16777216 + N / 256 / 256 % 256 * 65536 + N / 256 % 256 * 256 + N % 256 = N by omega] at h1
  have c5 : w1.cell? ⟨w.heap.size + 1, 0, none⟩ = some (.int .u32 N) := (blk_cell h1 0).trans rfl
  have b4' := blk_kept H4.out hk1 (by simp)
  obtain ⟨q40, q41, q42, q43⟩ := cells4 b4'
  have f40 := blk_free b4' 0
  have f41 := blk_free b4' 1
  have f42 := blk_free b4' 2
  have f43 := blk_free b4' 3
  have H1 := Lib.hid (And.intro b4' ((Kept.of_below (S := []) HB.out).trans hk1 (T := [w.heap.size + 1]) (fun t ht => by simp at ht; subst ht; exact .inr (by omega))))
  clear b4' hk1 h1
  go_upto_region 48 with fail
  obtain ⟨W2, hW2⟩ : ∃ W2, W2 = w1.setCell ⟨w.heap.size, 0, none⟩ (.int .u32 N) := ⟨_, rfl⟩
  have hb2 : Hid (W2.heap[w.heap.size]? = some (.cells #[.int .u32 N, .slice none 0 0, .int .i64 0, .slice none 0 0] 26 (0, 0))) := Lib.hid (by rw [hW2]; exact blk_set H1.out.1 0 _)
  have hk2 : Hid (Kept [] w W2) := Lib.hid (by rw [hW2]; exact H1.out.2.setCell (.inr (by simp)) _)
  rw [← hW2]
  clear hW2 q40 q41 q42 q43 f40 f41 f42 f43 c5
  go_cut [5] (fun v5 wx => v5 = .bool true ∧ Hid (wx.heap[w.heap.size]? = some (.cells #[.int .u32 N, .slice none 0 0, .int .i64 0, .slice none 0 0] 26 (0, 0))) ∧ Hid (Kept [w.heap.size] W2 wx))
  case first =>
    have hq := cells4 hb2.out
    have f40 := blk_free hb2.out 0
    have f41 := blk_free hb2.out 1
    have f42 := blk_free hb2.out 2
    have f43 := blk_free hb2.out 3
    refine wp_region_held_drew (S := fun w' => w'.cell? ⟨w.heap.size, 0, none⟩ = some (.int .u32 N) ∧ w'.cell? ⟨w.heap.size, 1, none⟩ = some (.slice none 0 0) ∧ w'.cell? ⟨w.heap.size, 2, none⟩ = some (.int .i64 0) ∧ w'.cell? ⟨w.heap.size, 3, none⟩ = some (.slice none 0 0)) (by kernel_rfl) hq (fun hHeld => ?_)
    obtain ⟨q40, q41, q42, q43⟩ := hq
    refine wpAnyH_take (i := 0) (v := ?_) rfl (by kernel_rfl) (by kernel_rfl) (by kernel_rfl) (fun _ _ _ h => h) (Or.inl ⟨by rfl, ?_⟩) hHeld ?_
    rotate_left
    · (intro w' hSw; (try dsimp only at hSw); go_simp <;> with_reducible rfl)
    simp only [List.getElem_toArray, List.getElem_cons_succ, List.getElem_cons_zero, Act.put, List.setIfInBounds_toArray, List.set_cons_zero, List.set_cons_succ]
    refine wpAnyH_take (i := 1) (v := ?_) rfl (by kernel_rfl) (by kernel_rfl) (by kernel_rfl) (fun _ _ _ h => h) (Or.inl ⟨by rfl, ?_⟩) hHeld ?_
    rotate_left
    · (intro w' hSw; (try dsimp only at hSw); go_simp <;> with_reducible rfl)
    simp only [List.getElem_toArray, List.getElem_cons_succ, List.getElem_cons_zero, Act.put, List.setIfInBounds_toArray, List.set_cons_zero, List.set_cons_succ]
    refine wpAnyH_take (i := 2) (v := ?_) rfl (by kernel_rfl) (by kernel_rfl) (by kernel_rfl) (fun _ _ _ h => h) (Or.inl ⟨by rfl, ?_⟩) hHeld ?_
    rotate_left
    · (intro w' hSw; (try dsimp only at hSw); go_simp <;> with_reducible rfl)
    simp only [List.getElem_toArray, List.getElem_cons_succ, List.getElem_cons_zero, Act.put, List.setIfInBounds_toArray, List.set_cons_zero, List.set_cons_succ]
    refine wpAnyH_ready (rs := [3]) (by kernel_rfl) (by simp) ?_
    refine AllReadyH.cons rfl (fun K hK => ?_) AllReadyH.nil
    go_simp
    have hb3 := blk_set (blk_set (blk_set (blk_set hb2.out 0 (.int .u32 N)) 1 (.slice none 0 0)) 2 (.int .i64 0)) 3 (.slice none 0 0)
    have hk3 : Kept [w.heap.size] W2 ((((W2.setCell ⟨w.heap.size, 0, none⟩ (.int .u32 N)).setCell ⟨w.heap.size, 1, none⟩ (.slice none 0 0)).setCell ⟨w.heap.size, 2, none⟩ (.int .i64 0)).setCell ⟨w.heap.size, 3, none⟩ (.slice none 0 0)) :=
      ((((Kept.refl [w.heap.size] W2).setCell (.inl (by simp)) _).setCell (.inl (by simp)) _).setCell (.inl (by simp)) _).setCell (.inl (by simp)) _
    have HB3 := Lib.hid hb3
    have HK3 := Lib.hid hk3
    have hc3 := cells4 hb3
    clear hb3 hk3
    refine hK.out _ _ hc3 (fun hHeld => ?_)
    clear hK K hc3
    refine wpAnyH_take (i := 4) (v := ?_) rfl (by kernel_rfl) (by kernel_rfl) (by kernel_rfl) (fun _ _ _ h => h) (Or.inl ⟨by rfl, ?_⟩) hHeld ?_
    rotate_left
    · (intro w' hSw; (try dsimp only at hSw); go_simp <;> with_reducible rfl)
    simp only [List.getElem_toArray, List.getElem_cons_succ, List.getElem_cons_zero, Act.put, List.setIfInBounds_toArray, List.set_cons_zero, List.set_cons_succ]
    refine wpAnyH_done (by kernel_rfl) ?_ _
    clear hHeld q40 q41 q42 q43 f40 f41 f42 f43
    go_wp2_with fail
    go_meet
    exact ⟨rfl, HB3, Lib.hid HK3.out.drew⟩
  case rest =>
  obtain ⟨rfl, hb4, hk4⟩ := hcut
  obtain ⟨q40, q41, q42, q43⟩ := cells4 hb4.out
  clear hb2
  go_wp2_with fail
  have hfin : Below w.heap.size w wc := (hk2.out.trans hk4.out (fun t ht => by simp at ht; subst ht; exact .inr (Nat.le_refl _))).toBelow
  refine bodyPost_ret (v := .tuple #[atV N none 0 0 0 none 0 0, .bool true]) (by simp [results, Tryz.results21, go_sem, *]) rfl ?_
  refine ⟨_, N, [], 0, [], rfl, ⟨none, 0, 0, none, 0, 0, rfl, rfl, Nat.le_refl _, Rd.nil _ _, rfl, Nat.le_refl _, Rd.nil _ _, by omega⟩, ?_, by simp [valB], hfin⟩
  simp [properB]

set_option maxRecDepth 100000 in
set_option maxHeartbeats 4000000 in
theorem got_10_no (g : Nat) (t : Int) (v id : List Int) (w : World) (h : MsgHas w g t v id) (ht : t ≠ 42) :
    Calls Tryz.prog 21 #[.int .i64 10, .pointer (some ⟨g, 0, none⟩)] w fun e w' => ∃ N' aA an ac P' dA dn dc, e = .returned (.tuple #[atV N' aA an ac P' dA dn dc, .bool false]) ∧ Below w.heap.size w w' := by
  have HB : Hid (Below w.heap.size w ((w.alloc (.cells #[.int .u32 0, .slice none 0 0, .int .i64 0, .slice none 0 0] 26)).alloc (.cells #[.int .u32 0] 82))) := Lib.hid (below_then (below_alloc _ _) (below_alloc _ _))
  have H4 : Hid (((w.alloc (.cells #[.int .u32 0, .slice none 0 0, .int .i64 0, .slice none 0 0] 26)).alloc (.cells #[.int .u32 0] 82)).heap[w.heap.size]? = some (.cells #[.int .u32 0, .slice none 0 0, .int .i64 0, .slice none 0 0] 26 (0, 0))) := Lib.hid (blk_alloc (heap_alloc_new w _) _)
  have H5 : Hid (((w.alloc (.cells #[.int .u32 0, .slice none 0 0, .int .i64 0, .slice none 0 0] 26)).alloc (.cells #[.int .u32 0] 82)).heap[w.heap.size + 1]? = some (.cells #[.int .u32 0] 82 (0, 0))) := Lib.hid (heap_at _ _ _ (by simp))
  have HM : Hid (MsgHas ((w.alloc (.cells #[.int .u32 0, .slice none 0 0, .int .i64 0, .slice none 0 0] 26)).alloc (.cells #[.int .u32 0] 82)) g t v id) := Lib.hid (h.below HB.out)
  clear h
  go_enter Tryz.func21, Tryz.ntmps21
  go_wp2_with fail
  refine (gConnection_no g (w.heap.size + 1) t v id _ HM.out ht).mono ?_
  rintro e w1 ⟨u, x, rfl, hB1⟩
  have h1 := blk_below H5.out hB1
  have hk1 := Kept.of_below (S := [w.heap.size + 1]) hB1
  clear hB1
  have c5 : w1.cell? ⟨w.heap.size + 1, 0, none⟩ = some (.int .u32 0) := (blk_cell h1 0).trans rfl
  have b4' := blk_kept H4.out hk1 (by simp)
  obtain ⟨q40, q41, q42, q43⟩ := cells4 b4'
  have f40 := blk_free b4' 0
  have f41 := blk_free b4' 1
  have f42 := blk_free b4' 2
  have f43 := blk_free b4' 3
  have H1 := Lib.hid (And.intro b4' ((Kept.of_below (S := []) HB.out).trans hk1 (T := [w.heap.size + 1]) (fun t ht => by simp at ht; subst ht; exact .inr (by omega))))
  clear b4' hk1 h1
  go_upto_region 48 with fail
  obtain ⟨W2, hW2⟩ : ∃ W2, W2 = w1.setCell ⟨w.heap.size, 0, none⟩ (.int .u32 0) := ⟨_, rfl⟩
  have hb2 : Hid (W2.heap[w.heap.size]? = some (.cells #[.int .u32 0, .slice none 0 0, .int .i64 0, .slice none 0 0] 26 (0, 0))) := Lib.hid (by rw [hW2]; exact blk_set H1.out.1 0 _)
  have hk2 : Hid (Kept [] w W2) := Lib.hid (by rw [hW2]; exact H1.out.2.setCell (.inr (by simp)) _)
  rw [← hW2]
  clear hW2 q40 q41 q42 q43 f40 f41 f42 f43 c5
  go_cut [5] (fun v5 wx => v5 = .bool false ∧ Hid (wx.heap[w.heap.size]? = some (.cells #[.int .u32 0, .slice none 0 0, .int .i64 0, .slice none 0 0] 26 (0, 0))) ∧ Hid (Kept [w.heap.size] W2 wx))
  case first =>
    have hq := cells4 hb2.out
    have f40 := blk_free hb2.out 0
    have f41 := blk_free hb2.out 1
    have f42 := blk_free hb2.out 2
    have f43 := blk_free hb2.out 3
    refine wp_region_held_drew (S := fun w' => w'.cell? ⟨w.heap.size, 0, none⟩ = some (.int .u32 0) ∧ w'.cell? ⟨w.heap.size, 1, none⟩ = some (.slice none 0 0) ∧ w'.cell? ⟨w.heap.size, 2, none⟩ = some (.int .i64 0) ∧ w'.cell? ⟨w.heap.size, 3, none⟩ = some (.slice none 0 0)) (by kernel_rfl) hq (fun hHeld => ?_)
    obtain ⟨q40, q41, q42, q43⟩ := hq
    refine wpAnyH_take (i := 0) (v := ?_) rfl (by kernel_rfl) (by kernel_rfl) (by kernel_rfl) (fun _ _ _ h => h) (Or.inl ⟨by rfl, ?_⟩) hHeld ?_
    rotate_left
    · (intro w' hSw; (try dsimp only at hSw); go_simp <;> with_reducible rfl)
    simp only [List.getElem_toArray, List.getElem_cons_succ, List.getElem_cons_zero, Act.put, List.setIfInBounds_toArray, List.set_cons_zero, List.set_cons_succ]
    refine wpAnyH_take (i := 1) (v := ?_) rfl (by kernel_rfl) (by kernel_rfl) (by kernel_rfl) (fun _ _ _ h => h) (Or.inl ⟨by rfl, ?_⟩) hHeld ?_
    rotate_left
    · (intro w' hSw; (try dsimp only at hSw); go_simp <;> with_reducible rfl)
    simp only [List.getElem_toArray, List.getElem_cons_succ, List.getElem_cons_zero, Act.put, List.setIfInBounds_toArray, List.set_cons_zero, List.set_cons_succ]
    refine wpAnyH_take (i := 2) (v := ?_) rfl (by kernel_rfl) (by kernel_rfl) (by kernel_rfl) (fun _ _ _ h => h) (Or.inl ⟨by rfl, ?_⟩) hHeld ?_
    rotate_left
    · (intro w' hSw; (try dsimp only at hSw); go_simp <;> with_reducible rfl)
    simp only [List.getElem_toArray, List.getElem_cons_succ, List.getElem_cons_zero, Act.put, List.setIfInBounds_toArray, List.set_cons_zero, List.set_cons_succ]
    refine wpAnyH_ready (rs := [3]) (by kernel_rfl) (by simp) ?_
    refine AllReadyH.cons rfl (fun K hK => ?_) AllReadyH.nil
    go_simp
    have hb3 := blk_set (blk_set (blk_set (blk_set hb2.out 0 (.int .u32 0)) 1 (.slice none 0 0)) 2 (.int .i64 0)) 3 (.slice none 0 0)
    have hk3 : Kept [w.heap.size] W2 ((((W2.setCell ⟨w.heap.size, 0, none⟩ (.int .u32 0)).setCell ⟨w.heap.size, 1, none⟩ (.slice none 0 0)).setCell ⟨w.heap.size, 2, none⟩ (.int .i64 0)).setCell ⟨w.heap.size, 3, none⟩ (.slice none 0 0)) :=
      ((((Kept.refl [w.heap.size] W2).setCell (.inl (by simp)) _).setCell (.inl (by simp)) _).setCell (.inl (by simp)) _).setCell (.inl (by simp)) _
    have HB3 := Lib.hid hb3
    have HK3 := Lib.hid hk3
    have hc3 := cells4 hb3
    clear hb3 hk3
    refine hK.out _ _ hc3 (fun hHeld => ?_)
    clear hK K hc3
    refine wpAnyH_take (i := 4) (v := ?_) rfl (by kernel_rfl) (by kernel_rfl) (by kernel_rfl) (fun _ _ _ h => h) (Or.inl ⟨by rfl, ?_⟩) hHeld ?_
    rotate_left
    · (intro w' hSw; (try dsimp only at hSw); go_simp <;> with_reducible rfl)
    simp only [List.getElem_toArray, List.getElem_cons_succ, List.getElem_cons_zero, Act.put, List.setIfInBounds_toArray, List.set_cons_zero, List.set_cons_succ]
    refine wpAnyH_done (by kernel_rfl) ?_ _
    clear hHeld q40 q41 q42 q43 f40 f41 f42 f43
    go_wp2_with fail
    go_meet
    exact ⟨rfl, HB3, Lib.hid HK3.out.drew⟩
  case rest =>
  obtain ⟨rfl, hb4, hk4⟩ := hcut
  obtain ⟨q40, q41, q42, q43⟩ := cells4 hb4.out
  clear hb2
  go_wp2_with fail
  have hfin : Below w.heap.size w wc := (hk2.out.trans hk4.out (fun t ht => by simp at ht; subst ht; exact .inr (Nat.le_refl _))).toBelow
  refine bodyPost_ret (v := .tuple #[atV 0 none 0 0 0 none 0 0, .bool false]) (by simp [results, Tryz.results21, go_sem, *]) rfl ?_
  exact ⟨_, _, _, _, _, _, _, _, rfl, hfin⟩

end Go.Proofs.YthgghgejndncnaaGreat
