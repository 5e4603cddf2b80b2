/- 'laws.FnOther': the walk of the case that reads. -/
import Derived.Test.YthgghgejndncnaaLGet2
namespace Go.Proofs.Ythgghgejndncnaa
open Go.RowKit
set_option linter.unusedSimpArgs false
set_option linter.unusedVariables false

set_option maxRecDepth 100000 in
set_option maxHeartbeats 4000000 in
theorem fnOther_good (k o : Int) (id : List Int) (N : Int) (aA : Option Addr) (an ac : Nat) (ax : List Int) (P : Int) (dA : Option Addr) (dn dc : Nat) (dx : List Int) (w : World) (hid : id.length = 12) (hbi : Bys id) (hN : 0 ≤ N ∧ N ≤ 4294967295)
    (ha : ax.length = an) (hac : an ≤ ac) (hba : Bys ax) (hRa : Rd w aA ax) (hd : dx.length = dn) (hdc : dn ≤ dc) (hRd : Rd w dA dx) (hsz : (decide ((an : Int) ≤ 2147483647) && decide ((dn : Int) ≤ 2147483647)) = true) (hf : fitsB k N an ax P dn = true) (ho : 0 ≤ o ∧ o ≤ 10) (hok : o ≠ k) (ho9 : o ≠ 9) :
    Calls Try.prog 7 #[.int .i64 k, .int .i64 o, idV id, atV N aA an ac P dA dn dc] w fun e w' => e = .returned (.bool true) ∧ Below w.heap.size w w' := by
  have hk : 0 ≤ k ∧ k ≤ 10 := by simp [fitsB] at hf; omega
  have hp : properB k N ax.length ax P dx.length = true := by rw [ha, hd]; simp [fitsB] at hf; exact hf.2
  have hko : typeB k ≠ typeB o := by
    rcases kinds hk with rfl | rfl | rfl | rfl | rfl | rfl | rfl | rfl | rfl | rfl | rfl <;> rcases kinds ho with rfl | rfl | rfl | rfl | rfl | rfl | rfl | rfl | rfl | rfl | rfl <;> first | exact absurd rfl hok | decide
  have t0 : decide (o < 0) = false := decide_eq_false (by omega)
  have t1 : decide (10 < o) = false := decide_eq_false (by omega)
  have t2 : (o == k) = false := by rw [beq_eq_false_iff_ne]; exact hok
  have t3 : (o == 9) = false := by rw [beq_eq_false_iff_ne]; exact ho9
  have h23 := proper_addr hp
  rw [ha] at h23
  have hvl := valB_len hp hid hk
  have hmsg := isMsg_msgB (id := id) hp hid hk
  obtain ⟨W, hW⟩ : ∃ W, W = (w.alloc (.cells (nums id).toArray 31)).alloc (.cells #[.int .u32 N, .slice aA an ac, .int .i64 P, .slice dA dn dc] 34) := ⟨_, rfl⟩
  have hB0 : Below w.heap.size w W := by rw [hW]; exact below_then (below_alloc _ _) (below_alloc _ _)
  have bI : W.heap[w.heap.size]? = some (.cells (nums id).toArray 31 (0, 0)) := by rw [hW]; exact blk_alloc (heap_alloc_new w _) _
  have bA : W.heap[w.heap.size + 1]? = some (.cells #[.int .u32 N, .slice aA an ac, .int .i64 P, .slice dA dn dc] 34 (0, 0)) := by rw [hW]; exact heap_at _ _ _ (by simp)
  have HS : Hid ((Try.prog.info? 31).map (·.size) = some (nums id).length) := Lib.hid (by rw [nums_length, hid]; kernel_rfl)
  have HA := Lib.hid (And.intro hid (And.intro hbi (And.intro ha (And.intro hba (And.intro hd h23)))))
  have HP := Lib.hid (And.intro hp (And.intro hvl hmsg))
  have HR := Lib.hid (And.intro hRa hRd)
  have HF := Lib.hid (And.intro hsz hf)
  have HB := Lib.hid (And.intro hB0 (And.intro bI bA))
  clear hid hbi ha hba hd h23 hp hvl hmsg hRa hRd hsz hf hB0 bI bA
  go_enter Try.func7, Try.ntmps7
  go_wp2_with fail
  refine (zzFits1_any N aA an ac P dA dn dc _).mono ?_
  rintro e w1 ⟨rfl, hB1⟩
  rw [HF.out.1]
  rw [← hW] at hB1
  have bA1 := blk_below HB.out.2.2 hB1
  obtain ⟨q0, q1, q2, q3⟩ := cells4 bA1
  have H1 := Lib.hid (And.intro (below_then HB.out.1 hB1) (And.intro (blk_below HB.out.2.1 hB1) bA1))
  clear hB1 bA1 hW
  go_wp2_with fail
  refine (fits_any k N aA an ac ax P dA dn dc _ HA.out.2.2.1 hac ?_).mono ?_
  · exact HR.out.1.below H1.out.1
  rintro e w2 ⟨rfl, hB2⟩
  rw [HF.out.2]
  have bA2 := blk_below H1.out.2.2 hB2
  clear q0 q1 q2 q3
  have H2 := Lib.hid (And.intro (below_then H1.out.1 hB2) (And.intro (blk_below H1.out.2.1 hB2) bA2))
  have HR2 := Lib.hid (And.intro (HR.out.1.below H2.out.1) (HR.out.2.below H2.out.1))
  clear hB2 bA2 hok ho9
  go_upto_region 5 with fail
  clear t0 t1 t2 t3
  refine wp_region_held_drew (S := fun w' => w'.rangeAt w.heap.size 0 (nums id) ∧ w'.cell? ⟨w.heap.size + 1, 0, none⟩ = some (.int .u32 N) ∧ w'.cell? ⟨w.heap.size + 1, 1, none⟩ = some (.slice aA an ac) ∧ w'.cell? ⟨w.heap.size + 1, 2, none⟩ = some (.int .i64 P) ∧ w'.cell? ⟨w.heap.size + 1, 3, none⟩ = some (.slice dA dn dc)) (by kernel_rfl) ⟨rangeAt_blk H2.out.2.1, cells4 H2.out.2.2⟩ (fun hHeld => ?_)
  refine wpAnyH_take (i := 0) (v := ?_) rfl (by kernel_rfl) (by kernel_rfl) (by kernel_rfl) (fun _ _ _ h => h) (Or.inl ⟨by rfl, ?_⟩) hHeld ?_
  rotate_left
  · (intro w' hSw; (try dsimp only at hSw); go_simp <;> with_reducible rfl)
  simp only [List.getElem_toArray, List.getElem_cons_succ, List.getElem_cons_zero, Act.put, List.setIfInBounds_toArray, List.set_cons_zero, List.set_cons_succ]
  refine wpAnyH_take (i := 1) (v := ?_) rfl (by kernel_rfl) (by kernel_rfl) (by kernel_rfl) (fun _ _ _ h => h) (Or.inl ⟨by rfl, ?_⟩) hHeld ?_
  rotate_left
  · (intro w' hSw; (try dsimp only at hSw); go_simp <;> with_reducible rfl)
  simp only [List.getElem_toArray, List.getElem_cons_succ, List.getElem_cons_zero, Act.put, List.setIfInBounds_toArray, List.set_cons_zero, List.set_cons_succ]
  refine wpAnyH_take (i := 2) (v := .agg ((nums id)).toArray) rfl (by kernel_rfl) (by kernel_rfl) (by kernel_rfl) (fun _ _ _ h => h) ?_ hHeld ?_
  · refine yieldsIf_load_mid rfl 31 (.tmp 6) rfl w.heap.size 0 rfl (nums id) (.array 12 5) (fun w' hw' => ?_) Try.underlying31 rfl HS.out
    exact hw'.1
  simp only [List.getElem_toArray, List.getElem_cons_succ, List.getElem_cons_zero, Act.put, List.setIfInBounds_toArray, List.set_cons_zero, List.set_cons_succ]
  refine wpAnyH_take (i := 3) (v := ?_) rfl (by kernel_rfl) (by kernel_rfl) (by kernel_rfl) (fun _ _ _ h => h) (Or.inl ⟨by rfl, ?_⟩) hHeld ?_
  rotate_left
  · (intro w' hSw; (try dsimp only at hSw); go_simp <;> with_reducible rfl)
  simp only [List.getElem_toArray, List.getElem_cons_succ, List.getElem_cons_zero, Act.put, List.setIfInBounds_toArray, List.set_cons_zero, List.set_cons_succ]
  refine wpAnyH_ready (rs := [4, 10]) (by kernel_rfl) (by simp) ?_
  refine AllReadyH.cons rfl (fun K hK => ?_) (AllReadyH.cons rfl (fun K hK => ?_) AllReadyH.nil)
  · go_simp
    go_at_call 18
    refine (attr_any N aA an ac P dA dn dc _).mono ?_
    rintro e u3 ⟨rfl, hb3'⟩
    have hb3 : Below w2.heap.size w2 u3 := below_then (Below.refl _ w2) (below_drew hb3')
    refine hK.out _ _ ⟨rangeAt_blk (blk_below H2.out.2.1 hb3), cells4 (blk_below H2.out.2.2 hb3)⟩ (fun hHeld => ?_)
    clear hK K
    refine wpAnyH_ready (rs := [5, 10]) (by kernel_rfl) (by simp) ?_
    refine AllReadyH.cons rfl (fun K hK => ?_) (AllReadyH.cons rfl (fun K hK => ?_) AllReadyH.nil)
    · go_simp
      go_at_call 20
      refine (sMessage_any k id N aA an ac ax P dA dn dc dx _ hk HA.out.1 hN HA.out.2.2.1 hac ?_ HA.out.2.2.2.2.1 hdc ?_ HA.out.2.2.2.2.2 HP.out.2.1).mono ?_
      exact HR2.out.1.below hb3
      exact HR2.out.2.below hb3
      rintro e u4 ⟨v5, rfl, hown5, hb4'⟩
      have hb4 : Below w2.heap.size w2 u4 := below_then hb3 hb4'
      obtain ⟨hlen5, A5, c5, rfl, hc5, hcm5, hR5⟩ := own_rd hown5
      clear hown5
      refine hK.out _ _ ⟨rangeAt_blk (blk_below H2.out.2.1 hb4), cells4 (blk_below H2.out.2.2 hb4)⟩ (fun hHeld => ?_)
      clear hK K
      refine wpAnyH_ready (rs := [6, 10]) (by kernel_rfl) (by simp) ?_
      refine AllReadyH.cons rfl (fun K hK => ?_) (AllReadyH.cons rfl (fun K hK => ?_) AllReadyH.nil)
      · go_simp
        go_at_call 19
        refine (get_msg (msgB (typeB k) id (valB k N ax P dx id)).length c5 o A5 (msgB (typeB k) id (valB k N ax P dx id)) (typeB k) (valB k N ax P dx id) id _ rfl hc5 hR5 HP.out.2.2 false (fun _ _ _ _ => True) ?_).mono ?_
        · intro g w1 hM
          refine (got_no o g (typeB k) (valB k N ax P dx id) id w1 ho hM hko).mono ?_
          rintro e w' ⟨N', aA', an', ac', P', dA', dn', dc', rfl, hB⟩
          exact ⟨N', aA', an', ac', P', dA', dn', dc', rfl, (fun h => by cases h), hB⟩
        rintro e u5 ⟨v6, ⟨N', aA', an', ac', P', dA', dn', dc', rfl⟩, rfl, -, hb5'⟩
        have hb5 : Below w2.heap.size w2 u5 := below_then hb4 hb5'
        refine hK.out _ _ ⟨rangeAt_blk (blk_below H2.out.2.1 hb5), cells4 (blk_below H2.out.2.2 hb5)⟩ (fun hHeld => ?_)
        clear hK K
        refine wpAnyH_take (i := 7) (v := ?_) rfl (by kernel_rfl) (by kernel_rfl) (by kernel_rfl) (fun _ _ _ h => h) (Or.inl ⟨by rfl, ?_⟩) hHeld ?_
        rotate_left
        · (intro w' hSw; (try dsimp only at hSw); go_simp <;> with_reducible rfl)
        simp only [List.getElem_toArray, List.getElem_cons_succ, List.getElem_cons_zero, Act.put, List.setIfInBounds_toArray, List.set_cons_zero, List.set_cons_succ]
        refine wpAnyH_take (i := 8) (v := ?_) rfl (by kernel_rfl) (by kernel_rfl) (by kernel_rfl) (fun _ _ _ h => h) (Or.inl ⟨by rfl, ?_⟩) hHeld ?_
        rotate_left
        · (intro w' hSw; (try dsimp only at hSw); go_simp <;> with_reducible rfl)
        simp only [List.getElem_toArray, List.getElem_cons_succ, List.getElem_cons_zero, Act.put, List.setIfInBounds_toArray, List.set_cons_zero, List.set_cons_succ]
        refine wpAnyH_take (i := 9) (v := ?_) rfl (by kernel_rfl) (by kernel_rfl) (by kernel_rfl) (fun _ _ _ h => h) (Or.inl ⟨by rfl, ?_⟩) hHeld ?_
        rotate_left
        · (intro w' hSw; (try dsimp only at hSw); go_simp <;> with_reducible rfl)
        simp only [List.getElem_toArray, List.getElem_cons_succ, List.getElem_cons_zero, Act.put, List.setIfInBounds_toArray, List.set_cons_zero, List.set_cons_succ]
        refine wpAnyH_ready (rs := [10]) (by kernel_rfl) (by simp) ?_
        refine AllReadyH.cons rfl (fun K hK => ?_) AllReadyH.nil
        go_simp
        refine (fun (hs : ∀ W5 : World, Below u5.heap.size u5 W5 → W5.heap[u5.heap.size]? = some (.cells #[.int .u32 0, .slice none 0 0, .int .i64 0, .slice none 0 0] 34 (0, 0)) → K _ W5) => hs _ ?_ ?_) (fun u6 hb6' hz => ?_)
        · refine Kept.toBelow ?_
          repeat (first | exact Kept.refl _ _ | apply Kept.drewN | apply Kept.drew | apply Kept.alloc)
        · exact heap_at _ _ _ (by first | rfl | simp)
        have hb6 : Below w2.heap.size w2 u6 := below_then hb5 hb6'
        refine hK.out _ _ ⟨rangeAt_blk (blk_below H2.out.2.1 hb6), cells4 (blk_below H2.out.2.2 hb6)⟩ (fun hHeld => ?_)
        clear hK K
        obtain ⟨q0, q1, q2, q3⟩ := cells4 hz
        have z0 := blk_free hz 0
        have z1 := blk_free hz 1
        have z2 := blk_free hz 2
        have z3 := blk_free hz 3
        refine wpAnyH_ready (rs := [11]) (by kernel_rfl) (by simp) ?_
        refine AllReadyH.cons rfl (fun K hK => ?_) AllReadyH.nil
        go_simp
        have hzs : ∀ t ∈ [u5.heap.size], w2.heap.size ≤ t := fun t ht => by simp at ht; subst ht; exact hb5.size
        have hk9 := ((((Kept.refl [u5.heap.size] u6).setCell (p := ⟨u5.heap.size, 0, none⟩) (.inl (by simp)) (.int .u32 N')).setCell (p := ⟨u5.heap.size, 1, none⟩) (.inl (by simp)) (.slice aA' an' ac')).setCell (p := ⟨u5.heap.size, 2, none⟩) (.inl (by simp)) (.int .i64 P')).setCell (p := ⟨u5.heap.size, 3, none⟩) (.inl (by simp)) (.slice dA' dn' dc')
        have hb9 := ((Kept.of_below (S := []) hb6).trans hk9 (fun t ht => .inr (hzs t ht))).toBelow
        refine hK.out _ _ ⟨rangeAt_blk (blk_below H2.out.2.1 hb9), cells4 (blk_below H2.out.2.2 hb9)⟩ (fun hHeld => ?_)
        clear hK K q0 q1 q2 q3 z0 z1 z2 z3
        refine wpAnyH_take (i := 12) (v := ?_) rfl (by kernel_rfl) (by kernel_rfl) (by kernel_rfl) (fun _ _ _ h => h) (Or.inl ⟨by rfl, ?_⟩) hHeld ?_
        rotate_left
        · (intro w' hSw; (try dsimp only at hSw); go_simp <;> with_reducible rfl)
        simp only [List.getElem_toArray, List.getElem_cons_succ, List.getElem_cons_zero, Act.put, List.setIfInBounds_toArray, List.set_cons_zero, List.set_cons_succ]
        refine wpAnyH_done (by kernel_rfl) ?_ _
        have HFIN := Lib.hid (below_then H2.out.1 hb9)
        clear hb9 hk9 hHeld hz
        go_wp2_with (go_at_call 11; refine (works_true _).mono ?_; rintro e w' ⟨rfl, rfl⟩)
        go_ret
        exact ⟨rfl, HFIN.out⟩
      · go_simp
        refine (fun (hs : ∀ W5 : World, Below u4.heap.size u4 W5 → W5.heap[u4.heap.size]? = some (.cells #[.int .u32 0, .slice none 0 0, .int .i64 0, .slice none 0 0] 34 (0, 0)) → K _ W5) => hs _ ?_ ?_) (fun u5 hb5' hz => ?_)
        · refine Kept.toBelow ?_
          repeat (first | exact Kept.refl _ _ | apply Kept.drewN | apply Kept.drew | apply Kept.alloc)
        · exact heap_at _ _ _ (by first | rfl | simp)
        have hb5 : Below w2.heap.size w2 u5 := below_then hb4 hb5'
        replace hR5 := hR5.below hb5'
        refine hK.out _ _ ⟨rangeAt_blk (blk_below H2.out.2.1 hb5), cells4 (blk_below H2.out.2.2 hb5)⟩ (fun hHeld => ?_)
        clear hK K
        refine wpAnyH_ready (rs := [6]) (by kernel_rfl) (by simp) ?_
        refine AllReadyH.cons rfl (fun K hK => ?_) AllReadyH.nil
        go_simp
        go_at_call 19
        refine (get_msg (msgB (typeB k) id (valB k N ax P dx id)).length c5 o A5 (msgB (typeB k) id (valB k N ax P dx id)) (typeB k) (valB k N ax P dx id) id _ rfl hc5 hR5 HP.out.2.2 false (fun _ _ _ _ => True) ?_).mono ?_
        · intro g w1 hM
          refine (got_no o g (typeB k) (valB k N ax P dx id) id w1 ho hM hko).mono ?_
          rintro e w' ⟨N', aA', an', ac', P', dA', dn', dc', rfl, hB⟩
          exact ⟨N', aA', an', ac', P', dA', dn', dc', rfl, (fun h => by cases h), hB⟩
        rintro e u6 ⟨v6, ⟨N', aA', an', ac', P', dA', dn', dc', rfl⟩, rfl, -, hb6'⟩
        have hb6 : Below w2.heap.size w2 u6 := below_then hb5 hb6'
        replace hz := blk_below hz hb6'
        refine hK.out _ _ ⟨rangeAt_blk (blk_below H2.out.2.1 hb6), cells4 (blk_below H2.out.2.2 hb6)⟩ (fun hHeld => ?_)
        clear hK K
        refine wpAnyH_take (i := 7) (v := ?_) rfl (by kernel_rfl) (by kernel_rfl) (by kernel_rfl) (fun _ _ _ h => h) (Or.inl ⟨by rfl, ?_⟩) hHeld ?_
        rotate_left
        · (intro w' hSw; (try dsimp only at hSw); go_simp <;> with_reducible rfl)
        simp only [List.getElem_toArray, List.getElem_cons_succ, List.getElem_cons_zero, Act.put, List.setIfInBounds_toArray, List.set_cons_zero, List.set_cons_succ]
        refine wpAnyH_take (i := 8) (v := ?_) rfl (by kernel_rfl) (by kernel_rfl) (by kernel_rfl) (fun _ _ _ h => h) (Or.inl ⟨by rfl, ?_⟩) hHeld ?_
        rotate_left
        · (intro w' hSw; (try dsimp only at hSw); go_simp <;> with_reducible rfl)
        simp only [List.getElem_toArray, List.getElem_cons_succ, List.getElem_cons_zero, Act.put, List.setIfInBounds_toArray, List.set_cons_zero, List.set_cons_succ]
        refine wpAnyH_take (i := 9) (v := ?_) rfl (by kernel_rfl) (by kernel_rfl) (by kernel_rfl) (fun _ _ _ h => h) (Or.inl ⟨by rfl, ?_⟩) hHeld ?_
        rotate_left
        · (intro w' hSw; (try dsimp only at hSw); go_simp <;> with_reducible rfl)
        simp only [List.getElem_toArray, List.getElem_cons_succ, List.getElem_cons_zero, Act.put, List.setIfInBounds_toArray, List.set_cons_zero, List.set_cons_succ]
        obtain ⟨q0, q1, q2, q3⟩ := cells4 hz
        have z0 := blk_free hz 0
        have z1 := blk_free hz 1
        have z2 := blk_free hz 2
        have z3 := blk_free hz 3
        refine wpAnyH_ready (rs := [11]) (by kernel_rfl) (by simp) ?_
        refine AllReadyH.cons rfl (fun K hK => ?_) AllReadyH.nil
        go_simp
        have hzs : ∀ t ∈ [u4.heap.size], w2.heap.size ≤ t := fun t ht => by simp at ht; subst ht; exact hb4.size
        have hk9 := ((((Kept.refl [u4.heap.size] u6).setCell (p := ⟨u4.heap.size, 0, none⟩) (.inl (by simp)) (.int .u32 N')).setCell (p := ⟨u4.heap.size, 1, none⟩) (.inl (by simp)) (.slice aA' an' ac')).setCell (p := ⟨u4.heap.size, 2, none⟩) (.inl (by simp)) (.int .i64 P')).setCell (p := ⟨u4.heap.size, 3, none⟩) (.inl (by simp)) (.slice dA' dn' dc')
        have hb9 := ((Kept.of_below (S := []) hb6).trans hk9 (fun t ht => .inr (hzs t ht))).toBelow
        refine hK.out _ _ ⟨rangeAt_blk (blk_below H2.out.2.1 hb9), cells4 (blk_below H2.out.2.2 hb9)⟩ (fun hHeld => ?_)
        clear hK K q0 q1 q2 q3 z0 z1 z2 z3
        refine wpAnyH_take (i := 12) (v := ?_) rfl (by kernel_rfl) (by kernel_rfl) (by kernel_rfl) (fun _ _ _ h => h) (Or.inl ⟨by rfl, ?_⟩) hHeld ?_
        rotate_left
        · (intro w' hSw; (try dsimp only at hSw); go_simp <;> with_reducible rfl)
        simp only [List.getElem_toArray, List.getElem_cons_succ, List.getElem_cons_zero, Act.put, List.setIfInBounds_toArray, List.set_cons_zero, List.set_cons_succ]
        refine wpAnyH_done (by kernel_rfl) ?_ _
        have HFIN := Lib.hid (below_then H2.out.1 hb9)
        clear hb9 hk9 hHeld hz
        go_wp2_with (go_at_call 11; refine (works_true _).mono ?_; rintro e w' ⟨rfl, rfl⟩)
        go_ret
        exact ⟨rfl, HFIN.out⟩
    · go_simp
      refine (fun (hs : ∀ W5 : World, Below u3.heap.size u3 W5 → W5.heap[u3.heap.size]? = some (.cells #[.int .u32 0, .slice none 0 0, .int .i64 0, .slice none 0 0] 34 (0, 0)) → K _ W5) => hs _ ?_ ?_) (fun u4 hb4' hz => ?_)
      · refine Kept.toBelow ?_
        repeat (first | exact Kept.refl _ _ | apply Kept.drewN | apply Kept.drew | apply Kept.alloc)
      · exact heap_at _ _ _ (by first | rfl | simp)
      have hb4 : Below w2.heap.size w2 u4 := below_then hb3 hb4'
      refine hK.out _ _ ⟨rangeAt_blk (blk_below H2.out.2.1 hb4), cells4 (blk_below H2.out.2.2 hb4)⟩ (fun hHeld => ?_)
      clear hK K
      refine wpAnyH_ready (rs := [5]) (by kernel_rfl) (by simp) ?_
      refine AllReadyH.cons rfl (fun K hK => ?_) AllReadyH.nil
      go_simp
      go_at_call 20
      refine (sMessage_any k id N aA an ac ax P dA dn dc dx _ hk HA.out.1 hN HA.out.2.2.1 hac ?_ HA.out.2.2.2.2.1 hdc ?_ HA.out.2.2.2.2.2 HP.out.2.1).mono ?_
      exact HR2.out.1.below hb4
      exact HR2.out.2.below hb4
      rintro e u5 ⟨v5, rfl, hown5, hb5'⟩
      have hb5 : Below w2.heap.size w2 u5 := below_then hb4 hb5'
      obtain ⟨hlen5, A5, c5, rfl, hc5, hcm5, hR5⟩ := own_rd hown5
      clear hown5
      replace hz := blk_below hz hb5'
      refine hK.out _ _ ⟨rangeAt_blk (blk_below H2.out.2.1 hb5), cells4 (blk_below H2.out.2.2 hb5)⟩ (fun hHeld => ?_)
      clear hK K
      refine wpAnyH_ready (rs := [6]) (by kernel_rfl) (by simp) ?_
      refine AllReadyH.cons rfl (fun K hK => ?_) AllReadyH.nil
      go_simp
      go_at_call 19
      refine (get_msg (msgB (typeB k) id (valB k N ax P dx id)).length c5 o A5 (msgB (typeB k) id (valB k N ax P dx id)) (typeB k) (valB k N ax P dx id) id _ rfl hc5 hR5 HP.out.2.2 false (fun _ _ _ _ => True) ?_).mono ?_
      · intro g w1 hM
        refine (got_no o g (typeB k) (valB k N ax P dx id) id w1 ho hM hko).mono ?_
        rintro e w' ⟨N', aA', an', ac', P', dA', dn', dc', rfl, hB⟩
        exact ⟨N', aA', an', ac', P', dA', dn', dc', rfl, (fun h => by cases h), hB⟩
      rintro e u6 ⟨v6, ⟨N', aA', an', ac', P', dA', dn', dc', rfl⟩, rfl, -, hb6'⟩
      have hb6 : Below w2.heap.size w2 u6 := below_then hb5 hb6'
      replace hz := blk_below hz hb6'
      refine hK.out _ _ ⟨rangeAt_blk (blk_below H2.out.2.1 hb6), cells4 (blk_below H2.out.2.2 hb6)⟩ (fun hHeld => ?_)
      clear hK K
      refine wpAnyH_take (i := 7) (v := ?_) rfl (by kernel_rfl) (by kernel_rfl) (by kernel_rfl) (fun _ _ _ h => h) (Or.inl ⟨by rfl, ?_⟩) hHeld ?_
      rotate_left
      · (intro w' hSw; (try dsimp only at hSw); go_simp <;> with_reducible rfl)
      simp only [List.getElem_toArray, List.getElem_cons_succ, List.getElem_cons_zero, Act.put, List.setIfInBounds_toArray, List.set_cons_zero, List.set_cons_succ]
      refine wpAnyH_take (i := 8) (v := ?_) rfl (by kernel_rfl) (by kernel_rfl) (by kernel_rfl) (fun _ _ _ h => h) (Or.inl ⟨by rfl, ?_⟩) hHeld ?_
      rotate_left
      · (intro w' hSw; (try dsimp only at hSw); go_simp <;> with_reducible rfl)
      simp only [List.getElem_toArray, List.getElem_cons_succ, List.getElem_cons_zero, Act.put, List.setIfInBounds_toArray, List.set_cons_zero, List.set_cons_succ]
      refine wpAnyH_take (i := 9) (v := ?_) rfl (by kernel_rfl) (by kernel_rfl) (by kernel_rfl) (fun _ _ _ h => h) (Or.inl ⟨by rfl, ?_⟩) hHeld ?_
      rotate_left
      · (intro w' hSw; (try dsimp only at hSw); go_simp <;> with_reducible rfl)
      simp only [List.getElem_toArray, List.getElem_cons_succ, List.getElem_cons_zero, Act.put, List.setIfInBounds_toArray, List.set_cons_zero, List.set_cons_succ]
      obtain ⟨q0, q1, q2, q3⟩ := cells4 hz
      have z0 := blk_free hz 0
      have z1 := blk_free hz 1
      have z2 := blk_free hz 2
      have z3 := blk_free hz 3
      refine wpAnyH_ready (rs := [11]) (by kernel_rfl) (by simp) ?_
      refine AllReadyH.cons rfl (fun K hK => ?_) AllReadyH.nil
      go_simp
      have hzs : ∀ t ∈ [u3.heap.size], w2.heap.size ≤ t := fun t ht => by simp at ht; subst ht; exact hb3.size
      have hk9 := ((((Kept.refl [u3.heap.size] u6).setCell (p := ⟨u3.heap.size, 0, none⟩) (.inl (by simp)) (.int .u32 N')).setCell (p := ⟨u3.heap.size, 1, none⟩) (.inl (by simp)) (.slice aA' an' ac')).setCell (p := ⟨u3.heap.size, 2, none⟩) (.inl (by simp)) (.int .i64 P')).setCell (p := ⟨u3.heap.size, 3, none⟩) (.inl (by simp)) (.slice dA' dn' dc')
      have hb9 := ((Kept.of_below (S := []) hb6).trans hk9 (fun t ht => .inr (hzs t ht))).toBelow
      refine hK.out _ _ ⟨rangeAt_blk (blk_below H2.out.2.1 hb9), cells4 (blk_below H2.out.2.2 hb9)⟩ (fun hHeld => ?_)
      clear hK K q0 q1 q2 q3 z0 z1 z2 z3
      refine wpAnyH_take (i := 12) (v := ?_) rfl (by kernel_rfl) (by kernel_rfl) (by kernel_rfl) (fun _ _ _ h => h) (Or.inl ⟨by rfl, ?_⟩) hHeld ?_
      rotate_left
      · (intro w' hSw; (try dsimp only at hSw); go_simp <;> with_reducible rfl)
      simp only [List.getElem_toArray, List.getElem_cons_succ, List.getElem_cons_zero, Act.put, List.setIfInBounds_toArray, List.set_cons_zero, List.set_cons_succ]
      refine wpAnyH_done (by kernel_rfl) ?_ _
      have HFIN := Lib.hid (below_then H2.out.1 hb9)
      clear hb9 hk9 hHeld hz
      go_wp2_with (go_at_call 11; refine (works_true _).mono ?_; rintro e w' ⟨rfl, rfl⟩)
      go_ret
      exact ⟨rfl, HFIN.out⟩
  · go_simp
    refine (fun (hs : ∀ W5 : World, Below w2.heap.size w2 W5 → W5.heap[w2.heap.size]? = some (.cells #[.int .u32 0, .slice none 0 0, .int .i64 0, .slice none 0 0] 34 (0, 0)) → K _ W5) => hs _ ?_ ?_) (fun u3 hb3' hz => ?_)
    · refine Kept.toBelow ?_
      repeat (first | exact Kept.refl _ _ | apply Kept.drewN | apply Kept.drew | apply Kept.alloc)
    · exact heap_at _ _ _ (by first | rfl | simp)
    have hb3 : Below w2.heap.size w2 u3 := below_then (Below.refl _ w2) hb3'
    refine hK.out _ _ ⟨rangeAt_blk (blk_below H2.out.2.1 hb3), cells4 (blk_below H2.out.2.2 hb3)⟩ (fun hHeld => ?_)
    clear hK K
    refine wpAnyH_ready (rs := [4]) (by kernel_rfl) (by simp) ?_
    refine AllReadyH.cons rfl (fun K hK => ?_) AllReadyH.nil
    go_simp
    go_at_call 18
    refine (attr_any N aA an ac P dA dn dc _).mono ?_
    rintro e u4 ⟨rfl, hb4'⟩
    have hb4 : Below w2.heap.size w2 u4 := below_then hb3 (hb4')
    replace hz := blk_below hz hb4'
    refine hK.out _ _ ⟨rangeAt_blk (blk_below H2.out.2.1 hb4), cells4 (blk_below H2.out.2.2 hb4)⟩ (fun hHeld => ?_)
    clear hK K
    refine wpAnyH_ready (rs := [5]) (by kernel_rfl) (by simp) ?_
    refine AllReadyH.cons rfl (fun K hK => ?_) AllReadyH.nil
    go_simp
    go_at_call 20
    refine (sMessage_any k id N aA an ac ax P dA dn dc dx _ hk HA.out.1 hN HA.out.2.2.1 hac ?_ HA.out.2.2.2.2.1 hdc ?_ HA.out.2.2.2.2.2 HP.out.2.1).mono ?_
    exact HR2.out.1.below hb4
    exact HR2.out.2.below hb4
    rintro e u5 ⟨v5, rfl, hown5, hb5'⟩
    have hb5 : Below w2.heap.size w2 u5 := below_then hb4 hb5'
    obtain ⟨hlen5, A5, c5, rfl, hc5, hcm5, hR5⟩ := own_rd hown5
    clear hown5
    replace hz := blk_below hz hb5'
    refine hK.out _ _ ⟨rangeAt_blk (blk_below H2.out.2.1 hb5), cells4 (blk_below H2.out.2.2 hb5)⟩ (fun hHeld => ?_)
    clear hK K
    refine wpAnyH_ready (rs := [6]) (by kernel_rfl) (by simp) ?_
    refine AllReadyH.cons rfl (fun K hK => ?_) AllReadyH.nil
    go_simp
    go_at_call 19
    refine (get_msg (msgB (typeB k) id (valB k N ax P dx id)).length c5 o A5 (msgB (typeB k) id (valB k N ax P dx id)) (typeB k) (valB k N ax P dx id) id _ rfl hc5 hR5 HP.out.2.2 false (fun _ _ _ _ => True) ?_).mono ?_
    · intro g w1 hM
      refine (got_no o g (typeB k) (valB k N ax P dx id) id w1 ho hM hko).mono ?_
      rintro e w' ⟨N', aA', an', ac', P', dA', dn', dc', rfl, hB⟩
      exact ⟨N', aA', an', ac', P', dA', dn', dc', rfl, (fun h => by cases h), hB⟩
    rintro e u6 ⟨v6, ⟨N', aA', an', ac', P', dA', dn', dc', rfl⟩, rfl, -, hb6'⟩
    have hb6 : Below w2.heap.size w2 u6 := below_then hb5 hb6'
    replace hz := blk_below hz hb6'
    refine hK.out _ _ ⟨rangeAt_blk (blk_below H2.out.2.1 hb6), cells4 (blk_below H2.out.2.2 hb6)⟩ (fun hHeld => ?_)
    clear hK K
    refine wpAnyH_take (i := 7) (v := ?_) rfl (by kernel_rfl) (by kernel_rfl) (by kernel_rfl) (fun _ _ _ h => h) (Or.inl ⟨by rfl, ?_⟩) hHeld ?_
    rotate_left
    · (intro w' hSw; (try dsimp only at hSw); go_simp <;> with_reducible rfl)
    simp only [List.getElem_toArray, List.getElem_cons_succ, List.getElem_cons_zero, Act.put, List.setIfInBounds_toArray, List.set_cons_zero, List.set_cons_succ]
    refine wpAnyH_take (i := 8) (v := ?_) rfl (by kernel_rfl) (by kernel_rfl) (by kernel_rfl) (fun _ _ _ h => h) (Or.inl ⟨by rfl, ?_⟩) hHeld ?_
    rotate_left
    · (intro w' hSw; (try dsimp only at hSw); go_simp <;> with_reducible rfl)
    simp only [List.getElem_toArray, List.getElem_cons_succ, List.getElem_cons_zero, Act.put, List.setIfInBounds_toArray, List.set_cons_zero, List.set_cons_succ]
    refine wpAnyH_take (i := 9) (v := ?_) rfl (by kernel_rfl) (by kernel_rfl) (by kernel_rfl) (fun _ _ _ h => h) (Or.inl ⟨by rfl, ?_⟩) hHeld ?_
    rotate_left
    · (intro w' hSw; (try dsimp only at hSw); go_simp <;> with_reducible rfl)
    simp only [List.getElem_toArray, List.getElem_cons_succ, List.getElem_cons_zero, Act.put, List.setIfInBounds_toArray, List.set_cons_zero, List.set_cons_succ]
    obtain ⟨q0, q1, q2, q3⟩ := cells4 hz
    have z0 := blk_free hz 0
    have z1 := blk_free hz 1
    have z2 := blk_free hz 2
    have z3 := blk_free hz 3
    refine wpAnyH_ready (rs := [11]) (by kernel_rfl) (by simp) ?_
    refine AllReadyH.cons rfl (fun K hK => ?_) AllReadyH.nil
    go_simp
    have hzs : ∀ t ∈ [w2.heap.size], w2.heap.size ≤ t := fun t ht => by simp at ht; subst ht; exact Nat.le_refl _
    have hk9 := ((((Kept.refl [w2.heap.size] u6).setCell (p := ⟨w2.heap.size, 0, none⟩) (.inl (by simp)) (.int .u32 N')).setCell (p := ⟨w2.heap.size, 1, none⟩) (.inl (by simp)) (.slice aA' an' ac')).setCell (p := ⟨w2.heap.size, 2, none⟩) (.inl (by simp)) (.int .i64 P')).setCell (p := ⟨w2.heap.size, 3, none⟩) (.inl (by simp)) (.slice dA' dn' dc')
    have hb9 := ((Kept.of_below (S := []) hb6).trans hk9 (fun t ht => .inr (hzs t ht))).toBelow
    refine hK.out _ _ ⟨rangeAt_blk (blk_below H2.out.2.1 hb9), cells4 (blk_below H2.out.2.2 hb9)⟩ (fun hHeld => ?_)
    clear hK K q0 q1 q2 q3 z0 z1 z2 z3
    refine wpAnyH_take (i := 12) (v := ?_) rfl (by kernel_rfl) (by kernel_rfl) (by kernel_rfl) (fun _ _ _ h => h) (Or.inl ⟨by rfl, ?_⟩) hHeld ?_
    rotate_left
    · (intro w' hSw; (try dsimp only at hSw); go_simp <;> with_reducible rfl)
    simp only [List.getElem_toArray, List.getElem_cons_succ, List.getElem_cons_zero, Act.put, List.setIfInBounds_toArray, List.set_cons_zero, List.set_cons_succ]
    refine wpAnyH_done (by kernel_rfl) ?_ _
    have HFIN := Lib.hid (below_then H2.out.1 hb9)
    clear hb9 hk9 hHeld hz
    go_wp2_with (go_at_call 11; refine (works_true _).mono ?_; rintro e w' ⟨rfl, rfl⟩)
    go_ret
    exact ⟨rfl, HFIN.out⟩
end Go.Proofs.Ythgghgejndncnaa
