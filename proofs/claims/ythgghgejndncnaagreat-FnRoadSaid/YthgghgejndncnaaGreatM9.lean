/- 'laws.FnRoad': the good case. -/
import Derived.Test.YthgghgejndncnaaGreatLGet
import Derived.Test.YthgghgejndncnaaGreatAddK
namespace Go.Proofs.YthgghgejndncnaaGreat
open Go.RowKit
set_option linter.unusedSimpArgs false
set_option linter.unusedVariables false

theorem addB_len {k N : Int} {ax : List Int} {P : Int} {dx id : List Int} (h : properB k N ax.length ax P dx.length = true) (hid : id.length = 12) (hk : 0 ≤ k ∧ k ≤ 10) : (addB k N ax P dx id).length ≤ 1000 := by
  unfold addB
  split
  · simp
  · exact valB_len h hid hk
theorem isMsg_add {k N : Int} {ax : List Int} {P : Int} {dx id : List Int} (h : properB k N ax.length ax P dx.length = true) (hid : id.length = 12) (hk : 0 ≤ k ∧ k ≤ 10) :
    IsMsg (msgH 0 0 (typeB k) id (addB k N ax P dx id)) (typeB k) (addB k N ax P dx id) id := by
  refine ⟨⟨0, 0, rfl, by omega, by omega⟩, hid, addB_len h hid hk, typeB_rng k, ?_, ?_⟩
  · unfold typeB; repeat' split <;> omega
  · unfold typeB; repeat' split <;> omega
theorem got_add (k : Int) (g : Nat) (N P : Int) (ax dx id : List Int) (w : World) (hk : 0 ≤ k ∧ k ≤ 10) (h : MsgHas w g (typeB k) (addB k N ax P dx id) id) (hp : properB k N ax.length ax P dx.length = true) (hN : 0 ≤ N ∧ N ≤ 4294967295) (hba : Bys ax) (hid : id.length = 12) (hbi : Bys id) :
    Calls Tryz.prog 21 #[.int .i64 k, .pointer (some ⟨g, 0, none⟩)] w fun e w' => GotYes k N ax P dx w e w' := by
  by_cases h5 : k = 5 ∧ N = 1
  · obtain ⟨rfl, rfl⟩ := h5
    exact got_5_1 g 255 P ax dx id w h (.inr rfl)
  · rw [show addB k N ax P dx id = valB k N ax P dx id from if_neg h5] at h
    exact got_yes k g N P ax dx id w hk h hp hN hba hid hbi

set_option maxRecDepth 100000 in
set_option maxHeartbeats 8000000 in
theorem fnRoad_good (k : Int) (id : List Int) (N : Int) (aA : Option Addr) (an ac : Nat) (ax : List Int) (P : Int) (dA : Option Addr) (dn dc : Nat) (dx : List Int) (w : World) (hid : id.length = 12) (hbi : Bys id) (hN : 0 ≤ N ∧ N ≤ 4294967295)
    (ha : ax.length = an) (hac : an ≤ ac) (hba : Bys ax) (hRa : Rd w aA ax) (hd : dx.length = dn) (hdc : dn ≤ dc) (hRd : Rd w dA dx) (hsz : (decide ((an : Int) ≤ 2147483647) && decide ((dn : Int) ≤ 2147483647)) = true) (hf : fitsB k N an ax P dn = true) :
    Calls Tryz.prog 3 #[.int .i64 k, idV id, atV N aA an ac P dA dn dc] w fun e w' => e = .returned (.bool true) ∧ Below w.heap.size w w' := by
  have hk : 0 ≤ k ∧ k ≤ 10 := by simp [fitsB] at hf; omega
  have hp : properB k N ax.length ax P dx.length = true := by rw [ha, hd]; simp [fitsB] at hf; exact hf.2
  have h23 := proper_addr hp
  rw [ha] at h23
  obtain ⟨vb, hvb⟩ : ∃ vb, vb = addB k N ax P dx id := ⟨_, rfl⟩
  have hmsg := isMsg_add (id := id) hp hid hk
  rw [← hvb] at hmsg
  have hadd : ∀ W : World, Rd W aA ax → Rd W dA dx → Calls Tryz.prog 7 #[.int .i64 k, idV id, atV N aA an ac P dA dn dc] W fun e w' => AddOut W w' e (typeB k) id vb := fun W h1 h2 => by
    rw [hvb]
    exact add_all k hk id N aA an ac ax P dA dn dc dx W hid hN ha h1 hd h2 (by rw [← ha, ← hd]; exact hp)
  have hgot : ∀ (g : Nat) (w1 : World), MsgHas w1 g (typeB k) vb id → Calls Tryz.prog 21 #[.int .i64 k, .pointer (some ⟨g, 0, none⟩)] w1 fun e w' => GotYes k N ax P dx w1 e w' := fun g w1 h => by
    rw [hvb] at h
    exact got_add k g N P ax dx id w1 hk h hp hN hba hid hbi
  obtain ⟨W, hW⟩ : ∃ W, W = (w.alloc (.cells (nums id).toArray 22)).alloc (.cells #[.int .u32 N, .slice aA an ac, .int .i64 P, .slice dA dn dc] 26) := ⟨_, rfl⟩
  have hB0 : Below w.heap.size w W := by rw [hW]; exact below_then (below_alloc _ _) (below_alloc _ _)
  have bI : W.heap[w.heap.size]? = some (.cells (nums id).toArray 22 (0, 0)) := by rw [hW]; exact blk_alloc (heap_alloc_new w _) _
  have bA : W.heap[w.heap.size + 1]? = some (.cells #[.int .u32 N, .slice aA an ac, .int .i64 P, .slice dA dn dc] 26 (0, 0)) := by rw [hW]; exact heap_at _ _ _ (by simp)
  have HS : Hid ((Tryz.prog.info? 22).map (·.size) = some (nums id).length) := Lib.hid (by rw [nums_length, hid]; kernel_rfl)
  have HA := Lib.hid (And.intro hid (And.intro hbi (And.intro ha (And.intro hba (And.intro hd h23)))))
  have HP := Lib.hid (And.intro hp hmsg)
  have HADD := Lib.hid hadd
  have HGOT := Lib.hid hgot
  have HR := Lib.hid (And.intro hRa hRd)
  have HF := Lib.hid (And.intro hsz hf)
  have HB := Lib.hid (And.intro hB0 (And.intro bI bA))
  clear hid hbi ha hba hd h23 hp hmsg hadd hgot hRa hRd hsz hf hB0 bI bA hvb
  go_enter Tryz.func3, Tryz.ntmps3
  go_wp2_with fail
  refine (zzFits1_any N aA an ac P dA dn dc _).mono ?_
  rintro e w1 ⟨rfl, hB1⟩
  rw [HF.out.1]
  rw [← hW] at hB1
  have bA1 := blk_below HB.out.2.2 hB1
  obtain ⟨q0, q1, q2, q3⟩ := cells4 bA1
  have H1 := Lib.hid (And.intro (below_then HB.out.1 hB1) (And.intro (blk_below HB.out.2.1 hB1) bA1))
  clear hB1 bA1 hW
  go_wp2_with fail
  refine (fits_any k N aA an ac ax P dA dn dc _ HA.out.2.2.1 hac ?_).mono ?_
  · exact HR.out.1.below H1.out.1
  rintro e w2 ⟨rfl, hB2⟩
  rw [HF.out.2]
  have bA2 := blk_below H1.out.2.2 hB2
  clear q0 q1 q2 q3
  obtain ⟨q0, q1, q2, q3⟩ := cells4 bA2
  have H2 := Lib.hid (And.intro (below_then H1.out.1 hB2) (And.intro (blk_below H1.out.2.1 hB2) bA2))
  have HI2 := Lib.hid (rangeAt_blk H2.out.2.1)
  clear hB2 bA2
  go_wp2_with (refine wpList_load_mid rfl 22 (.tmp 4) rfl w.heap.size 0 rfl (nums id) _ HI2.out Tryz.underlying22 rfl HS.out ?_)
  refine (HADD.out _ (HR.out.1.below H2.out.1) (HR.out.2.below H2.out.1)).mono ?_
  rintro e w5 ⟨A5, c5, hc5, rfl, hR5, hB5⟩
  have hml := HP.out.2.length
  have H5 := Lib.hid (And.intro (below_then H2.out.1 hB5) (blk_below H2.out.2.2 hB5))
  have HR5 := Lib.hid (And.intro hR5 hml)
  clear q0 q1 q2 q3 hB5 hR5 hml HI2
  generalize 24 + pad4 vb.length = n at *
  go_wp2_with fail
  refine (get_msg n c5 k A5 (msgH 0 0 (typeB k) id vb) (typeB k) vb id _ HR5.out.2 hc5 HR5.out.1 HP.out.2 true (fun N0 ax0 P0 dx0 => properB k N0 ax0.length ax0 P0 dx0.length = true ∧ valB k N0 ax0 P0 dx0 zeros12 = valB k N ax P dx zeros12) ?_).mono ?_
  · intro g w1 hM
    refine (HGOT.out g w1 hM).mono ?_
    rintro e w' ⟨v, N', ax', P', dx', rfl, ⟨aA', an', ac', dA', dn', dc', rfl, h1, h2, h3, h4, h5, h6, h7⟩, hpp, hvv, hB⟩
    exact ⟨N', aA', an', ac', P', dA', dn', dc', rfl, fun _ => ⟨N', ax', P', dx', ⟨aA', an', ac', dA', dn', dc', rfl, h1, h2, h3, h4, h5, h6, h7⟩, hpp, hvv⟩, hB⟩
  rintro e w6 ⟨v6, -, rfl, hA6, hB6⟩
  obtain ⟨N', ax', P', dx', ⟨aA', an', ac', dA', dn', dc', rfl, a1, a2, a3, a4, a5, a6, a7⟩, hpp, hvv⟩ := hA6 rfl
  have HX := Lib.hid (And.intro a1 (And.intro a3 (And.intro a4 (And.intro a6 (And.intro a7 (And.intro hpp hvv))))))
  have bX6 := blk_below H5.out.2 hB6
  have H6 := Lib.hid (And.intro (below_then H5.out.1 hB6) bX6)
  clear a1 a3 a4 a6 a7 hpp hvv hA6 hB6 bX6
  go_upto_region 7 with fail
  obtain ⟨W7, hW7⟩ : ∃ W7, W7 = w6.alloc (.cells #[.int .u32 N', .slice aA' an' ac', .int .i64 P', .slice dA' dn' dc'] 26) := ⟨_, rfl⟩
  have bG7 : W7.heap[w6.heap.size]? = some (.cells #[.int .u32 N', .slice aA' an' ac', .int .i64 P', .slice dA' dn' dc'] 26 (0, 0)) := by rw [hW7]; exact heap_alloc_new _ _
  have hB7 : Below w6.heap.size w6 W7 := by rw [hW7]; exact below_alloc _ _
  obtain ⟨q0, q1, q2, q3⟩ := cells4 bG7
  have H7 := Lib.hid (And.intro (below_then H6.out.1 hB7) (And.intro (blk_below H6.out.2 hB7) (And.intro (HX.out.2.1.below hB7) (HX.out.2.2.2.1.below hB7))))
  rw [← hW7]
  generalize w6.heap.size = sg at *
  clear hW7 hB7 bG7
  go_upto_region 8 with (go_at_call 9; refine (attr_any N' aA' an' ac' P' dA' dn' dc' _).mono ?_; rintro e w8 ⟨rfl, hB8⟩; have H8 := Lib.hid (And.intro (below_then H7.out.1 hB8) (And.intro (blk_below H7.out.2.1 hB8) (And.intro (H7.out.2.2.1.below hB8) (H7.out.2.2.2.below hB8)))); clear hB8)
  obtain ⟨W9, hW9⟩ : ∃ W9, W9 = w8.alloc (.cells #[.int .u32 N', .slice aA' an' ac', .int .i64 P', .slice dA' dn' dc'] 34) := ⟨_, rfl⟩
  have bY9 : W9.heap[w8.heap.size]? = some (.cells #[.int .u32 N', .slice aA' an' ac', .int .i64 P', .slice dA' dn' dc'] 34 (0, 0)) := by rw [hW9]; exact heap_alloc_new _ _
  have hB9 : Below w8.heap.size w8 W9 := by rw [hW9]; exact below_alloc _ _
  clear q0 q1 q2 q3
  have H9 := Lib.hid (And.intro (below_then H8.out.1 hB9) (And.intro (blk_below H8.out.2.1 hB9) (And.intro (H8.out.2.2.1.below hB9) (And.intro (H8.out.2.2.2.below hB9) bY9))))
  rw [← hW9]
  generalize w8.heap.size = sy at *
  clear hW9 hB9 bY9
  have hpp : properB k N' an' ax' P' dn' = true := by rw [← HX.out.1, ← HX.out.2.2.1]; exact HX.out.2.2.2.2.2.1
  have HPP := Lib.hid hpp
  have H23' : Hid (k = 2 ∨ k = 3 → (0 ≤ P' ∧ P' ≤ 65535) ∧ (an' = 4 ∨ an' = 16)) := Lib.hid (proper_addr hpp)
  clear hpp
  have HSS : Hid (∀ w' : World, Below W9.heap.size W9 w' → (w'.cell? ⟨sy, 0, none⟩ = some (.int .u32 N') ∧ w'.cell? ⟨sy, 1, none⟩ = some (.slice aA' an' ac') ∧ w'.cell? ⟨sy, 2, none⟩ = some (.int .i64 P') ∧ w'.cell? ⟨sy, 3, none⟩ = some (.slice dA' dn' dc') ∧ w'.cell? ⟨w.heap.size + 1, 0, none⟩ = some (.int .u32 N) ∧ w'.cell? ⟨w.heap.size + 1, 1, none⟩ = some (.slice aA an ac) ∧ w'.cell? ⟨w.heap.size + 1, 2, none⟩ = some (.int .i64 P) ∧ w'.cell? ⟨w.heap.size + 1, 3, none⟩ = some (.slice dA dn dc))) := Lib.hid (fun w' hb => by
    obtain ⟨y0, y1, y2, y3⟩ := cells4 (blk_below H9.out.2.2.2.2 hb)
    obtain ⟨x0, x1, x2, x3⟩ := cells4 (blk_below H9.out.2.1 hb)
    exact ⟨y0, y1, y2, y3, x0, x1, x2, x3⟩)
  refine wp_region_held_drew (S := fun w' => w'.cell? ⟨sy, 0, none⟩ = some (.int .u32 N') ∧ w'.cell? ⟨sy, 1, none⟩ = some (.slice aA' an' ac') ∧ w'.cell? ⟨sy, 2, none⟩ = some (.int .i64 P') ∧ w'.cell? ⟨sy, 3, none⟩ = some (.slice dA' dn' dc') ∧ w'.cell? ⟨w.heap.size + 1, 0, none⟩ = some (.int .u32 N) ∧ w'.cell? ⟨w.heap.size + 1, 1, none⟩ = some (.slice aA an ac) ∧ w'.cell? ⟨w.heap.size + 1, 2, none⟩ = some (.int .i64 P) ∧ w'.cell? ⟨w.heap.size + 1, 3, none⟩ = some (.slice dA dn dc)) (by kernel_rfl) (HSS.out W9 (Below.refl _ _)) (fun hHeld => ?_)
  refine wpAnyH_take (i := 0) (v := ?_) rfl (by kernel_rfl) (by kernel_rfl) (by kernel_rfl) (fun _ _ _ h => h) (Or.inl ⟨by rfl, ?_⟩) hHeld ?_
  rotate_left
  · (intro w' hSw; (try dsimp only at hSw); go_simp <;> with_reducible rfl)
  simp only [List.getElem_toArray, List.getElem_cons_succ, List.getElem_cons_zero, Act.put, List.setIfInBounds_toArray, List.set_cons_zero, List.set_cons_succ]
  refine wpAnyH_take (i := 1) (v := ?_) rfl (by kernel_rfl) (by kernel_rfl) (by kernel_rfl) (fun _ _ _ h => h) (Or.inl ⟨by rfl, ?_⟩) hHeld ?_
  rotate_left
  · (intro w' hSw; (try dsimp only at hSw); go_simp <;> with_reducible rfl)
  simp only [List.getElem_toArray, List.getElem_cons_succ, List.getElem_cons_zero, Act.put, List.setIfInBounds_toArray, List.set_cons_zero, List.set_cons_succ]
  refine wpAnyH_take (i := 2) (v := ?_) rfl (by kernel_rfl) (by kernel_rfl) (by kernel_rfl) (fun _ _ _ h => h) (Or.inl ⟨by rfl, ?_⟩) hHeld ?_
  rotate_left
  · (intro w' hSw; (try dsimp only at hSw); go_simp <;> with_reducible rfl)
  simp only [List.getElem_toArray, List.getElem_cons_succ, List.getElem_cons_zero, Act.put, List.setIfInBounds_toArray, List.set_cons_zero, List.set_cons_succ]
  refine wpAnyH_take (i := 3) (v := ?_) rfl (by kernel_rfl) (by kernel_rfl) (by kernel_rfl) (fun _ _ _ h => h) (Or.inl ⟨by rfl, ?_⟩) hHeld ?_
  rotate_left
  · (intro w' hSw; (try dsimp only at hSw); go_simp <;> with_reducible rfl)
  simp only [List.getElem_toArray, List.getElem_cons_succ, List.getElem_cons_zero, Act.put, List.setIfInBounds_toArray, List.set_cons_zero, List.set_cons_succ]
  refine wpAnyH_take (i := 4) (v := ?_) rfl (by kernel_rfl) (by kernel_rfl) (by kernel_rfl) (fun _ _ _ h => h) (Or.inl ⟨by rfl, ?_⟩) hHeld ?_
  rotate_left
  · (intro w' hSw; (try dsimp only at hSw); go_simp <;> with_reducible rfl)
  simp only [List.getElem_toArray, List.getElem_cons_succ, List.getElem_cons_zero, Act.put, List.setIfInBounds_toArray, List.set_cons_zero, List.set_cons_succ]
  refine wpAnyH_take (i := 5) (v := ?_) rfl (by kernel_rfl) (by kernel_rfl) (by kernel_rfl) (fun _ _ _ h => h) (Or.inl ⟨by rfl, ?_⟩) hHeld ?_
  rotate_left
  · (intro w' hSw; (try dsimp only at hSw); go_simp <;> with_reducible rfl)
  simp only [List.getElem_toArray, List.getElem_cons_succ, List.getElem_cons_zero, Act.put, List.setIfInBounds_toArray, List.set_cons_zero, List.set_cons_succ]
  refine wpAnyH_take (i := 6) (v := ?_) rfl (by kernel_rfl) (by kernel_rfl) (by kernel_rfl) (fun _ _ _ h => h) (Or.inl ⟨by rfl, ?_⟩) hHeld ?_
  rotate_left
  · (intro w' hSw; (try dsimp only at hSw); go_simp <;> with_reducible rfl)
  simp only [List.getElem_toArray, List.getElem_cons_succ, List.getElem_cons_zero, Act.put, List.setIfInBounds_toArray, List.set_cons_zero, List.set_cons_succ]
  refine wpAnyH_ready (rs := [7]) (by kernel_rfl) (by simp) ?_
  refine AllReadyH.cons rfl (fun K hK => ?_) AllReadyH.nil
  go_simp
  go_at_call 10
  refine (proper_any k N' aA' an' ac' ax' P' dA' dn' dc' W9.drew hk HX.out.1 a2 H9.out.2.2.1).mono ?_
  rintro e w10 ⟨rfl, hB10'⟩
  rw [HPP.out]
  have hB10 : Below W9.heap.size W9 w10 := below_drew hB10'
  refine hK.out _ _ (HSS.out w10 hB10) (fun hHeld => ?_)
  clear hK K hB10'
  refine wpAnyH_take (i := 8) (v := ?_) rfl (by kernel_rfl) (by kernel_rfl) (by kernel_rfl) (fun _ _ _ h => h) (Or.inl ⟨by rfl, ?_⟩) hHeld ?_
  rotate_left
  · (intro w' hSw; (try dsimp only at hSw); go_simp <;> with_reducible rfl)
  simp only [List.getElem_toArray, List.getElem_cons_succ, List.getElem_cons_zero, Act.put, List.setIfInBounds_toArray, List.set_cons_zero, List.set_cons_succ]
  refine wpAnyH_take (i := 9) (v := ?_) rfl (by kernel_rfl) (by kernel_rfl) (by kernel_rfl) (fun _ _ _ h => h) (Or.inl ⟨by rfl, ?_⟩) hHeld ?_
  rotate_left
  · (intro w' hSw; (try dsimp only at hSw); go_simp <;> with_reducible rfl)
  simp only [List.getElem_toArray, List.getElem_cons_succ, List.getElem_cons_zero, Act.put, List.setIfInBounds_toArray, List.set_cons_zero, List.set_cons_succ]
  refine wpAnyH_take (i := 10) (v := ?_) rfl (by kernel_rfl) (by kernel_rfl) (by kernel_rfl) (fun _ _ _ h => h) (Or.inl ⟨by rfl, ?_⟩) hHeld ?_
  rotate_left
  · (intro w' hSw; (try dsimp only at hSw); go_simp <;> with_reducible rfl)
  simp only [List.getElem_toArray, List.getElem_cons_succ, List.getElem_cons_zero, Act.put, List.setIfInBounds_toArray, List.set_cons_zero, List.set_cons_succ]
  refine wpAnyH_take (i := 11) (v := ?_) rfl (by kernel_rfl) (by kernel_rfl) (by kernel_rfl) (fun _ _ _ h => h) (Or.inl ⟨by rfl, ?_⟩) hHeld ?_
  rotate_left
  · (intro w' hSw; (try dsimp only at hSw); go_simp <;> with_reducible rfl)
  simp only [List.getElem_toArray, List.getElem_cons_succ, List.getElem_cons_zero, Act.put, List.setIfInBounds_toArray, List.set_cons_zero, List.set_cons_succ]
  refine wpAnyH_take (i := 12) (v := ?_) rfl (by kernel_rfl) (by kernel_rfl) (by kernel_rfl) (fun _ _ _ h => h) (Or.inl ⟨by rfl, ?_⟩) hHeld ?_
  rotate_left
  · (intro w' hSw; (try dsimp only at hSw); go_simp <;> with_reducible rfl)
  simp only [List.getElem_toArray, List.getElem_cons_succ, List.getElem_cons_zero, Act.put, List.setIfInBounds_toArray, List.set_cons_zero, List.set_cons_succ]
  refine wpAnyH_ready (rs := [13]) (by kernel_rfl) (by simp) ?_
  refine AllReadyH.cons rfl (fun K hK => ?_) AllReadyH.nil
  go_simp
  go_at_call 9
  refine (attr_any N aA an ac P dA dn dc _).mono ?_
  rintro e w11 ⟨rfl, hB11'⟩
  have hB11 : Below W9.heap.size W9 w11 := below_then hB10 hB11'
  refine hK.out _ _ (HSS.out w11 hB11) (fun hHeld => ?_)
  clear hK K hB11'
  refine wpAnyH_ready (rs := [14]) (by kernel_rfl) (by simp) ?_
  refine AllReadyH.cons rfl (fun K hK => ?_) AllReadyH.nil
  go_simp
  go_at_call 11
  have hBw := below_then H9.out.1 hB11
  refine (same_any k N' N aA' aA an' ac' an ac ax' ax P' P dA' dA dn' dc' dn dc dx' dx _ hk HX.out.2.2.2.2.1 HX.out.1 a2 (H9.out.2.2.1.below hB11) HX.out.2.2.1 a5 (H9.out.2.2.2.1.below hB11) H23'.out hN HA.out.2.2.1 hac (HR.out.1.below hBw) HA.out.2.2.2.2.1 hdc (HR.out.2.below hBw) HA.out.2.2.2.2.2 HX.out.2.2.2.2.2.2).mono ?_
  rintro e w12 ⟨rfl, hB12'⟩
  have hB12 : Below W9.heap.size W9 w12 := below_then hB11 hB12'
  refine hK.out _ _ (HSS.out w12 hB12) (fun hHeld => ?_)
  clear hK K hB12'
  refine wpAnyH_take (i := 15) (v := ?_) rfl (by kernel_rfl) (by kernel_rfl) (by kernel_rfl) (fun _ _ _ h => h) (Or.inl ⟨by rfl, ?_⟩) hHeld ?_
  rotate_left
  · (intro w' hSw; (try dsimp only at hSw); go_simp <;> with_reducible rfl)
  simp only [List.getElem_toArray, List.getElem_cons_succ, List.getElem_cons_zero, Act.put, List.setIfInBounds_toArray, List.set_cons_zero, List.set_cons_succ]
  refine wpAnyH_take (i := 16) (v := ?_) rfl (by kernel_rfl) (by kernel_rfl) (by kernel_rfl) (fun _ _ _ h => h) (Or.inl ⟨by rfl, ?_⟩) hHeld ?_
  rotate_left
  · (intro w' hSw; (try dsimp only at hSw); go_simp <;> with_reducible rfl)
  simp only [List.getElem_toArray, List.getElem_cons_succ, List.getElem_cons_zero, Act.put, List.setIfInBounds_toArray, List.set_cons_zero, List.set_cons_succ]
  refine wpAnyH_ready (rs := [17]) (by kernel_rfl) (by simp) ?_
  refine AllReadyH.cons rfl (fun K hK => ?_) AllReadyH.nil
  go_simp
  go_at_call 6
  refine (works_true _).mono ?_
  rintro e w' ⟨rfl, rfl⟩
  refine hK.out _ _ hHeld (fun hHeld => ?_)
  clear hK K
  refine wpAnyH_take (i := 18) (v := ?_) rfl (by kernel_rfl) (by kernel_rfl) (by kernel_rfl) (fun _ _ _ h => h) (Or.inl ⟨by rfl, ?_⟩) hHeld ?_
  rotate_left
  · (intro w' hSw; (try dsimp only at hSw); go_simp <;> with_reducible rfl)
  simp only [List.getElem_toArray, List.getElem_cons_succ, List.getElem_cons_zero, Act.put, List.setIfInBounds_toArray, List.set_cons_zero, List.set_cons_succ]
  refine wpAnyH_take (i := 19) (v := ?_) rfl (by kernel_rfl) (by kernel_rfl) (by kernel_rfl) (fun _ _ _ h => h) (Or.inl ⟨by rfl, ?_⟩) hHeld ?_
  rotate_left
  · (intro w' hSw; (try dsimp only at hSw); go_simp <;> with_reducible rfl)
  simp only [List.getElem_toArray, List.getElem_cons_succ, List.getElem_cons_zero, Act.put, List.setIfInBounds_toArray, List.set_cons_zero, List.set_cons_succ]
  refine wpAnyH_done (by kernel_rfl) ?_ _
  have HE := Lib.hid (below_then H9.out.1 hB12)
  clear hHeld hB10 hB11 hB12 hBw
  go_wp2_with fail
  go_ret
  exact ⟨rfl, HE.out⟩
end Go.Proofs.YthgghgejndncnaaGreat

/- 'laws.FnRoad': the walk, whole. -/
namespace Go.Proofs.YthgghgejndncnaaGreat
open Go.RowKit
set_option linter.unusedSimpArgs false
set_option linter.unusedVariables false

set_option maxHeartbeats 1000000 in
theorem fnRoad_any (k : Int) (id : List Int) (N : Int) (aA : Option Addr) (an ac : Nat) (ax : List Int) (P : Int) (dA : Option Addr) (dn dc : Nat) (dx : List Int) (w : World) (hid : id.length = 12) (hbi : Bys id) (hN : 0 ≤ N ∧ N ≤ 4294967295)
    (ha : ax.length = an) (hac : an ≤ ac) (hba : Bys ax) (hRa : Rd w aA ax) (hd : dx.length = dn) (hdc : dn ≤ dc) (hRd : Rd w dA dx) :
    Calls Tryz.prog 3 #[.int .i64 k, idV id, atV N aA an ac P dA dn dc] w fun e w' => e = .returned (.bool true) ∧ Below w.heap.size w w' := by
  rcases Bool.eq_false_or_eq_true (decide ((an : Int) ≤ 2147483647) && decide ((dn : Int) ≤ 2147483647)) with hsz | hsz
  · rcases Bool.eq_false_or_eq_true (fitsB k N an ax P dn) with hf | hf
    · exact fnRoad_good k id N aA an ac ax P dA dn dc dx w hid hbi hN ha hac hba hRa hd hdc hRd hsz hf
    · have HF := Lib.hid (And.intro hsz hf)
      have HB : Hid (Below w.heap.size w ((w.alloc (.cells (nums id).toArray 22)).alloc (.cells #[.int .u32 N, .slice aA an ac, .int .i64 P, .slice dA dn dc] 26))) := Lib.hid (below_then (below_alloc _ _) (below_alloc _ _))
      have HA0 : Hid (((w.alloc (.cells (nums id).toArray 22)).alloc (.cells #[.int .u32 N, .slice aA an ac, .int .i64 P, .slice dA dn dc] 26)).heap[w.heap.size + 1]? = some (.cells #[.int .u32 N, .slice aA an ac, .int .i64 P, .slice dA dn dc] 26 (0, 0))) := Lib.hid (heap_at _ _ _ (by simp))
      have HR := Lib.hid hRa
      have HL := Lib.hid ha
      clear hsz hf hRa ha
      go_enter Tryz.func3, Tryz.ntmps3
      go_wp2_with fail
      refine (zzFits1_any N aA an ac P dA dn dc _).mono ?_
      rintro e w1 ⟨rfl, hB1⟩
      rw [HF.out.1]
      obtain ⟨q0, q1, q2, q3⟩ := cells4 (blk_below HA0.out hB1)
      have H1 := Lib.hid (below_then HB.out hB1)
      clear hB1
      go_wp2_with fail
      refine (fits_any k N aA an ac ax P dA dn dc _ HL.out hac ?_).mono ?_
      · exact HR.out.below H1.out
      rintro e w2 ⟨rfl, hB2⟩
      rw [HF.out.2]
      have H2 := Lib.hid (below_then H1.out hB2)
      clear hB2 q0 q1 q2 q3
      go_wp2_with (go_at_call 6; refine (works_true _).mono ?_; rintro e w' ⟨rfl, rfl⟩)
      go_ret
      exact ⟨rfl, H2.out⟩
  · have HF := Lib.hid hsz
    have HB : Hid (Below w.heap.size w ((w.alloc (.cells (nums id).toArray 22)).alloc (.cells #[.int .u32 N, .slice aA an ac, .int .i64 P, .slice dA dn dc] 26))) := Lib.hid (below_then (below_alloc _ _) (below_alloc _ _))
    clear hsz
    go_enter Tryz.func3, Tryz.ntmps3
    go_wp2_with fail
    refine (zzFits1_any N aA an ac P dA dn dc _).mono ?_
    rintro e w1 ⟨rfl, hB1⟩
    rw [HF.out]
    have H1 := Lib.hid (below_then HB.out hB1)
    clear hB1
    go_wp2_with fail
    go_ret
    exact ⟨rfl, H1.out⟩
end Go.Proofs.YthgghgejndncnaaGreat
