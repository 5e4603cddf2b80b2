/- 'laws.same'. -/
import Derived.Test.YthgghgejndncnaaGreatBlk
namespace Go.Proofs.YthgghgejndncnaaGreat
open Go.RowKit
set_option linter.unusedSimpArgs false
set_option linter.unusedVariables false

theorem cells4 {w : World} {g : Nat} {a b c d : Value} {t : TypeId} {fr : Nat × Nat} (h : w.heap[g]? = some (.cells #[a, b, c, d] t fr)) :
    w.cell? ⟨g, 0, none⟩ = some a ∧ w.cell? ⟨g, 1, none⟩ = some b ∧ w.cell? ⟨g, 2, none⟩ = some c ∧ w.cell? ⟨g, 3, none⟩ = some d :=
  ⟨(blk_cell h 0).trans rfl, (blk_cell h 1).trans rfl, (blk_cell h 2).trans rfl, (blk_cell h 3).trans rfl⟩

set_option maxRecDepth 100000 in
set_option maxHeartbeats 4000000 in
theorem same_any (k N N' : Int) (aA aA' : Option Addr) (an ac an' ac' : Nat) (ax ax' : List Int) (P P' : Int) (dA dA' : Option Addr) (dn dc dn' dc' : Nat) (dx dx' : List Int) (w : World) (hk : 0 ≤ k ∧ k ≤ 10)
    (hN : 0 ≤ N ∧ N ≤ 4294967295) (ha : ax.length = an) (hac : an ≤ ac) (hRa : Rd w aA ax) (hd : dx.length = dn) (hdc : dn ≤ dc) (hRd : Rd w dA dx) (h23 : k = 2 ∨ k = 3 → (0 ≤ P ∧ P ≤ 65535) ∧ (an = 4 ∨ an = 16))
    (hN' : 0 ≤ N' ∧ N' ≤ 4294967295) (ha' : ax'.length = an') (hac' : an' ≤ ac') (hRa' : Rd w aA' ax') (hd' : dx'.length = dn') (hdc' : dn' ≤ dc') (hRd' : Rd w dA' dx') (h23' : k = 2 ∨ k = 3 → (0 ≤ P' ∧ P' ≤ 65535) ∧ (an' = 4 ∨ an' = 16))
    (heq : valB k N ax P dx zeros12 = valB k N' ax' P' dx' zeros12) :
    Calls Tryz.prog 11 #[.int .i64 k, atV N aA an ac P dA dn dc, atV N' aA' an' ac' P' dA' dn' dc'] w fun e w' => e = .returned (.bool true) ∧ Below w.heap.size w w' := by
  obtain ⟨W, hW⟩ : ∃ W, W = (((w.alloc (.cells #[.int .u32 N, .slice aA an ac, .int .i64 P, .slice dA dn dc] 34)).alloc (.cells #[.int .u32 N', .slice aA' an' ac', .int .i64 P', .slice dA' dn' dc'] 34)).alloc (.cells #[.int .u8 0, .int .u8 0, .int .u8 0, .int .u8 0, .int .u8 0, .int .u8 0, .int .u8 0, .int .u8 0, .int .u8 0, .int .u8 0, .int .u8 0, .int .u8 0] 22)) := ⟨_, rfl⟩
  have b0 : W.heap[w.heap.size]? = some (.cells #[.int .u32 N, .slice aA an ac, .int .i64 P, .slice dA dn dc] 34 (0, 0)) := by subst hW; exact blk_alloc (blk_alloc (heap_alloc_new w _) _) _
  have b1 : W.heap[w.heap.size + 1]? = some (.cells #[.int .u32 N', .slice aA' an' ac', .int .i64 P', .slice dA' dn' dc'] 34 (0, 0)) := by
    subst hW
    refine blk_alloc ?_ _
    have := heap_alloc_new (w.alloc (.cells #[.int .u32 N, .slice aA an ac, .int .i64 P, .slice dA dn dc] 34)) (.cells #[.int .u32 N', .slice aA' an' ac', .int .i64 P', .slice dA' dn' dc'] 34)
    simpa using this
  have b2 : W.heap[w.heap.size + 1 + 1]? = some (.cells (nums zeros12).toArray 22 (0, 0)) := by
    subst hW
    have e : w.heap.size + 1 + 1 = ((w.alloc (.cells #[.int .u32 N, .slice aA an ac, .int .i64 P, .slice dA dn dc] 34)).alloc (.cells #[.int .u32 N', .slice aA' an' ac', .int .i64 P', .slice dA' dn' dc'] 34)).heap.size := by simp
    rw [e]
    exact heap_alloc_new _ _
  have hBW : Below w.heap.size w W := by subst hW; exact below_then (below_then (below_alloc _ _) (below_alloc _ _)) (below_alloc _ _)
  have HF := Lib.hid (And.intro b0 (And.intro b1 (And.intro b2 hBW)))
  have H1 := Lib.hid (And.intro (hRa.below hBW) (hRd.below hBW))
  have H2 := Lib.hid (And.intro (hRa'.below hBW) (hRd'.below hBW))
  have HA := Lib.hid (And.intro ha (And.intro hd h23))
  have HA' := Lib.hid (And.intro ha' (And.intro hd' h23'))
  have HS : Hid ((Tryz.prog.info? 22).map (·.size) = some (nums zeros12).length) := Lib.hid (by rw [nums_length]; kernel_rfl)
  have HE := Lib.hid heq
  clear b0 b1 b2 hBW hRa hRd hRa' hRd' ha hd h23 ha' hd' h23' heq
  have q1 := cells4 HF.out.1
  have q2 := cells4 HF.out.2.1
  have hvb : ∃ vb, vb = valB k N ax P dx zeros12 := ⟨_, rfl⟩
  obtain ⟨vb, hvb⟩ := hvb
  have HV := Lib.hid hvb
  have HV' := Lib.hid (hvb.trans HE.out)
  clear hvb
  go_enter Tryz.func11, Tryz.ntmps11
  go_upto_region 2 with fail
  rw [← hW]
  have HW := Lib.hid hW
  clear hW
  refine wp_region_held_drew (S := fun w' => w'.rangeAt (w.heap.size + 1 + 1) 0 (nums zeros12) ∧ w'.cell? ⟨w.heap.size, 0, none⟩ = some (.int .u32 N) ∧ w'.cell? ⟨w.heap.size, 1, none⟩ = some (.slice aA an ac) ∧ w'.cell? ⟨w.heap.size, 2, none⟩ = some (.int .i64 P) ∧ w'.cell? ⟨w.heap.size, 3, none⟩ = some (.slice dA dn dc) ∧ w'.cell? ⟨w.heap.size + 1, 0, none⟩ = some (.int .u32 N') ∧ w'.cell? ⟨w.heap.size + 1, 1, none⟩ = some (.slice aA' an' ac') ∧ w'.cell? ⟨w.heap.size + 1, 2, none⟩ = some (.int .i64 P') ∧ w'.cell? ⟨w.heap.size + 1, 3, none⟩ = some (.slice dA' dn' dc')) (by kernel_rfl) ⟨rangeAt_blk HF.out.2.2.1, q1.1, q1.2.1, q1.2.2.1, q1.2.2.2, q2.1, q2.2.1, q2.2.2.1, q2.2.2.2⟩ (fun hHeld => ?_)
  clear q1 q2
  refine wpAnyH_take (i := 0) (v := ?_) rfl (by kernel_rfl) (by kernel_rfl) (by kernel_rfl) (fun _ _ _ h => h) (Or.inl ⟨by rfl, ?_⟩) hHeld ?_
  rotate_left
  · (intro w' hSw; (try dsimp only at hSw); go_simp <;> with_reducible rfl)
  simp only [List.getElem_toArray, List.getElem_cons_succ, List.getElem_cons_zero, Act.put, List.setIfInBounds_toArray, List.set_cons_zero, List.set_cons_succ]
  refine wpAnyH_take (i := 1) (v := .agg ((nums zeros12)).toArray) rfl (by kernel_rfl) (by kernel_rfl) (by kernel_rfl) (fun _ _ _ h => h) ?_ hHeld ?_
  · refine yieldsIf_load_mid rfl 22 (.tmp 7) rfl (w.heap.size + 1 + 1) 0 rfl (nums zeros12) (.array 12 5) (fun w' hw' => ?_) Tryz.underlying22 rfl HS.out
    exact hw'.1
  simp only [List.getElem_toArray, List.getElem_cons_succ, List.getElem_cons_zero, Act.put, List.setIfInBounds_toArray, List.set_cons_zero, List.set_cons_succ]
  refine wpAnyH_take (i := 2) (v := ?_) rfl (by kernel_rfl) (by kernel_rfl) (by kernel_rfl) (fun _ _ _ h => h) (Or.inl ⟨by rfl, ?_⟩) hHeld ?_
  rotate_left
  · (intro w' hSw; (try dsimp only at hSw); go_simp <;> with_reducible rfl)
  simp only [List.getElem_toArray, List.getElem_cons_succ, List.getElem_cons_zero, Act.put, List.setIfInBounds_toArray, List.set_cons_zero, List.set_cons_succ]
  refine wpAnyH_take (i := 5) (v := ?_) rfl (by kernel_rfl) (by kernel_rfl) (by kernel_rfl) (fun _ _ _ h => h) (Or.inl ⟨by rfl, ?_⟩) hHeld ?_
  rotate_left
  · (intro w' hSw; (try dsimp only at hSw); go_simp <;> with_reducible rfl)
  simp only [List.getElem_toArray, List.getElem_cons_succ, List.getElem_cons_zero, Act.put, List.setIfInBounds_toArray, List.set_cons_zero, List.set_cons_succ]
  refine wpAnyH_take (i := 6) (v := .agg ((nums zeros12)).toArray) rfl (by kernel_rfl) (by kernel_rfl) (by kernel_rfl) (fun _ _ _ h => h) ?_ hHeld ?_
  · refine yieldsIf_load_mid rfl 22 (.tmp 7) rfl (w.heap.size + 1 + 1) 0 rfl (nums zeros12) (.array 12 5) (fun w' hw' => ?_) Tryz.underlying22 rfl HS.out
    exact hw'.1
  simp only [List.getElem_toArray, List.getElem_cons_succ, List.getElem_cons_zero, Act.put, List.setIfInBounds_toArray, List.set_cons_zero, List.set_cons_succ]
  refine wpAnyH_take (i := 7) (v := ?_) rfl (by kernel_rfl) (by kernel_rfl) (by kernel_rfl) (fun _ _ _ h => h) (Or.inl ⟨by rfl, ?_⟩) hHeld ?_
  rotate_left
  · (intro w' hSw; (try dsimp only at hSw); go_simp <;> with_reducible rfl)
  simp only [List.getElem_toArray, List.getElem_cons_succ, List.getElem_cons_zero, Act.put, List.setIfInBounds_toArray, List.set_cons_zero, List.set_cons_succ]
  refine wpAnyH_ready (rs := [3]) (by kernel_rfl) (by simp) ?_
  refine AllReadyH.cons rfl (fun K hK => ?_) AllReadyH.nil
  go_simp
  go_at_call 23
  refine (value_any k zeros12 N aA an ac ax P dA dn dc dx _ hk rfl hN HA.out.1 hac ?_ HA.out.2.1 hdc ?_ HA.out.2.2).mono ?_
  exact H1.out.1
  exact H1.out.2
  rintro e w1 ⟨v1, rfl, hv1, hB1'⟩
  have hB1 : Below W.heap.size W w1 := below_drew hB1'
  obtain ⟨A1, n1, c1, rfl, hn1, hc1, hR1⟩ := hv1
  rw [← HV.out] at hR1 hn1
  have q1 := cells4 (blk_below HF.out.1 hB1)
  have q2 := cells4 (blk_below HF.out.2.1 hB1)
  refine hK.out _ _ ⟨rangeAt_blk (blk_below HF.out.2.2.1 hB1), q1.1, q1.2.1, q1.2.2.1, q1.2.2.2, q2.1, q2.2.1, q2.2.2.1, q2.2.2.2⟩ (fun hHeld => ?_)
  clear hK K q1 q2
  refine wpAnyH_strong (S' := fun w' => (convert 24 9 (.slice A1 n1 c1)).run Tryz.prog w' = .ok (.string (strOfNums vb)) w' ∧ w'.rangeAt (w.heap.size + 1 + 1) 0 (nums zeros12) ∧ w'.cell? ⟨w.heap.size, 0, none⟩ = some (.int .u32 N) ∧ w'.cell? ⟨w.heap.size, 1, none⟩ = some (.slice aA an ac) ∧ w'.cell? ⟨w.heap.size, 2, none⟩ = some (.int .i64 P) ∧ w'.cell? ⟨w.heap.size, 3, none⟩ = some (.slice dA dn dc) ∧ w'.cell? ⟨w.heap.size + 1, 0, none⟩ = some (.int .u32 N') ∧ w'.cell? ⟨w.heap.size + 1, 1, none⟩ = some (.slice aA' an' ac') ∧ w'.cell? ⟨w.heap.size + 1, 2, none⟩ = some (.int .i64 P') ∧ w'.cell? ⟨w.heap.size + 1, 3, none⟩ = some (.slice dA' dn' dc')) (fun w' h => h.2) _ _ _ _ ?_
  replace hHeld : (fun w' : World => (convert 24 9 (.slice A1 n1 c1)).run Tryz.prog w' = .ok (.string (strOfNums vb)) w' ∧ w'.rangeAt (w.heap.size + 1 + 1) 0 (nums zeros12) ∧ w'.cell? ⟨w.heap.size, 0, none⟩ = some (.int .u32 N) ∧ w'.cell? ⟨w.heap.size, 1, none⟩ = some (.slice aA an ac) ∧ w'.cell? ⟨w.heap.size, 2, none⟩ = some (.int .i64 P) ∧ w'.cell? ⟨w.heap.size, 3, none⟩ = some (.slice dA dn dc) ∧ w'.cell? ⟨w.heap.size + 1, 0, none⟩ = some (.int .u32 N') ∧ w'.cell? ⟨w.heap.size + 1, 1, none⟩ = some (.slice aA' an' ac') ∧ w'.cell? ⟨w.heap.size + 1, 2, none⟩ = some (.int .i64 P') ∧ w'.cell? ⟨w.heap.size + 1, 3, none⟩ = some (.slice dA' dn' dc')) w1 := ⟨conv_rd Tryz.underlying24 Tryz.underlying5 Tryz.underlying9 hn1 hR1, hHeld⟩
  refine wpAnyH_take (i := 4) (v := ?_) rfl (by kernel_rfl) (by kernel_rfl) (by kernel_rfl) (fun _ _ _ h => h) (Or.inl ⟨by rfl, ?_⟩) hHeld ?_
  rotate_left
  · (intro w' hSw; (try dsimp only at hSw); go_simp <;> with_reducible rfl)
  simp only [List.getElem_toArray, List.getElem_cons_succ, List.getElem_cons_zero, Act.put, List.setIfInBounds_toArray, List.set_cons_zero, List.set_cons_succ]
  refine wpAnyH_ready (rs := [8]) (by kernel_rfl) (by simp) ?_
  refine AllReadyH.cons rfl (fun K hK => ?_) AllReadyH.nil
  go_simp
  go_at_call 23
  refine (value_any k zeros12 N' aA' an' ac' ax' P' dA' dn' dc' dx' _ hk rfl hN' HA'.out.1 hac' ?_ HA'.out.2.1 hdc' ?_ HA'.out.2.2).mono ?_
  exact H2.out.1.below hB1
  exact H2.out.2.below hB1
  rintro e w2 ⟨v2, rfl, hv2, hB2'⟩
  have hB2 : Below W.heap.size W w2 := below_then hB1 hB2'
  obtain ⟨A2, n2, c2, rfl, hn2, hc2, hR2⟩ := hv2
  rw [← HV'.out] at hR2 hn2
  have hR1' := hR1.below hB2'
  have q1 := cells4 (blk_below HF.out.1 hB2)
  have q2 := cells4 (blk_below HF.out.2.1 hB2)
  refine hK.out _ _ ⟨conv_rd Tryz.underlying24 Tryz.underlying5 Tryz.underlying9 hn1 hR1', rangeAt_blk (blk_below HF.out.2.2.1 hB2), q1.1, q1.2.1, q1.2.2.1, q1.2.2.2, q2.1, q2.2.1, q2.2.2.1, q2.2.2.2⟩ (fun hHeld => ?_)
  clear hK K q1 q2
  refine wpAnyH_strong (S' := fun w' => (convert 24 9 (.slice A2 n2 c2)).run Tryz.prog w' = .ok (.string (strOfNums vb)) w' ∧ (convert 24 9 (.slice A1 n1 c1)).run Tryz.prog w' = .ok (.string (strOfNums vb)) w' ∧ w'.rangeAt (w.heap.size + 1 + 1) 0 (nums zeros12) ∧ w'.cell? ⟨w.heap.size, 0, none⟩ = some (.int .u32 N) ∧ w'.cell? ⟨w.heap.size, 1, none⟩ = some (.slice aA an ac) ∧ w'.cell? ⟨w.heap.size, 2, none⟩ = some (.int .i64 P) ∧ w'.cell? ⟨w.heap.size, 3, none⟩ = some (.slice dA dn dc) ∧ w'.cell? ⟨w.heap.size + 1, 0, none⟩ = some (.int .u32 N') ∧ w'.cell? ⟨w.heap.size + 1, 1, none⟩ = some (.slice aA' an' ac') ∧ w'.cell? ⟨w.heap.size + 1, 2, none⟩ = some (.int .i64 P') ∧ w'.cell? ⟨w.heap.size + 1, 3, none⟩ = some (.slice dA' dn' dc')) (fun w' h => h.2) _ _ _ _ ?_
  replace hHeld : (fun w' : World => (convert 24 9 (.slice A2 n2 c2)).run Tryz.prog w' = .ok (.string (strOfNums vb)) w' ∧ (convert 24 9 (.slice A1 n1 c1)).run Tryz.prog w' = .ok (.string (strOfNums vb)) w' ∧ w'.rangeAt (w.heap.size + 1 + 1) 0 (nums zeros12) ∧ w'.cell? ⟨w.heap.size, 0, none⟩ = some (.int .u32 N) ∧ w'.cell? ⟨w.heap.size, 1, none⟩ = some (.slice aA an ac) ∧ w'.cell? ⟨w.heap.size, 2, none⟩ = some (.int .i64 P) ∧ w'.cell? ⟨w.heap.size, 3, none⟩ = some (.slice dA dn dc) ∧ w'.cell? ⟨w.heap.size + 1, 0, none⟩ = some (.int .u32 N') ∧ w'.cell? ⟨w.heap.size + 1, 1, none⟩ = some (.slice aA' an' ac') ∧ w'.cell? ⟨w.heap.size + 1, 2, none⟩ = some (.int .i64 P') ∧ w'.cell? ⟨w.heap.size + 1, 3, none⟩ = some (.slice dA' dn' dc')) w2 := ⟨conv_rd Tryz.underlying24 Tryz.underlying5 Tryz.underlying9 hn2 hR2, hHeld⟩
  refine wpAnyH_take (i := 9) (v := ?_) rfl (by kernel_rfl) (by kernel_rfl) (by kernel_rfl) (fun _ _ _ h => h) (Or.inl ⟨by rfl, ?_⟩) hHeld ?_
  rotate_left
  · (intro w' hSw; (try dsimp only at hSw); go_simp <;> with_reducible rfl)
  simp only [List.getElem_toArray, List.getElem_cons_succ, List.getElem_cons_zero, Act.put, List.setIfInBounds_toArray, List.set_cons_zero, List.set_cons_succ]
  refine wpAnyH_take (i := 10) (v := ?_) rfl (by kernel_rfl) (by kernel_rfl) (by kernel_rfl) (fun _ _ _ h => h) (Or.inl ⟨by rfl, ?_⟩) hHeld ?_
  rotate_left
  · (intro w' hSw; (try dsimp only at hSw); go_simp <;> with_reducible rfl)
  simp only [List.getElem_toArray, List.getElem_cons_succ, List.getElem_cons_zero, Act.put, List.setIfInBounds_toArray, List.set_cons_zero, List.set_cons_succ]
  refine wpAnyH_take (i := 11) (v := ?_) rfl (by kernel_rfl) (by kernel_rfl) (by kernel_rfl) (fun _ _ _ h => h) (Or.inl ⟨by rfl, ?_⟩) hHeld ?_
  rotate_left
  · (intro w' hSw; (try dsimp only at hSw); go_simp <;> with_reducible rfl)
  simp only [List.getElem_toArray, List.getElem_cons_succ, List.getElem_cons_zero, Act.put, List.setIfInBounds_toArray, List.set_cons_zero, List.set_cons_succ]
  refine wpAnyH_done (by kernel_rfl) ?_ _
  have HF' := Lib.hid (below_then HF.out.2.2.2 hB2)
  clear hHeld hB1 hB2 hB1' hB2' hR1 hR1' hR2
  go_wp2_with fail
  go_ret
  exact ⟨rfl, HF'.out⟩
end Go.Proofs.YthgghgejndncnaaGreat
