/- '(*XORMappedAddress).GetFromAs': an address of 4 bytes. -/
import Derived.Test.YthgghgejndncnaaGreatM3
import Derived.Deep.CutRange
import Derived.Deep.DeepCutAuto
import Derived.WalkSpells
import Derived.WalkLawsBesides
namespace Go.Proofs.YthgghgejndncnaaGreat
open Go.RowKit
set_option linter.unusedSimpArgs false
set_option linter.unusedVariables false

set_option maxRecDepth 100000 in
set_option maxHeartbeats 4000000 in
theorem getFromAs_4 (g r : Nat) (t P : Int) (T : TypeId) (ax id : List Int) (w0 w : World) (h : MsgHas w0 g t ([0, 1, x8 (P / 256 % 256) 33, x8 (P % 256) 18] ++ xorL ax (mask id)) id) (hB0 : Below w0.heap.size w0 w) (hr : w.heap[r]? = some (.cells #[.slice none 0 0, .int .i64 0] T (0, 0))) (hr0 : w0.heap.size ≤ r)
    (hP : 0 ≤ P ∧ P ≤ 65535) (hax : ax.length = 4) (hba : Bys ax) (hid : id.length = 12) (hbi : Bys id) :
    Calls Tryz.prog 62 #[.pointer (some ⟨r, 0, none⟩), .pointer (some ⟨g, 0, none⟩), .int .u16 t] w fun e w' => e = .returned .nilIface ∧ ∃ d, w'.heap[r]? = some (.cells #[.slice (some ⟨d, 0, none⟩) 4 4, .int .i64 P] T (0, 0)) ∧ Rd w' (some ⟨d, 0, none⟩) ax ∧ Kept [r] w w' := by
  have hport := port_back P hP
  have hX := x8_rng (P / 256 % 256) 33 (by omega) (by omega)
  have hY := x8_rng (P % 256) 18 (by omega) (by omega)
  generalize hXX : x8 (P / 256 % 256) 33 = X at *
  generalize hYY : x8 (P % 256) 18 = Y at *
  clear hXX hYY
  have hgr : g < w0.heap.size := by obtain ⟨M, C, L, rw_, ab, cap, A, n, c, l, hg0, _⟩ := h; exact hg0.lt
  have hgi : Rd w (some ⟨g, 3, none⟩) id := by obtain ⟨M, C, L, rw_, ab, cap, A, n, c, l, hg0, _⟩ := h; exact (hg0.below hB0).rd
  have hvl : ([0, 1, X, Y] ++ xorL ax (mask id)).length = 8 := by simp [xorL_length, mask, hax, hid]
  have hrw := blk_lt hr
  have hw0w := hB0.size
  have HH := Lib.hid h
  have HB0 := Lib.hid hB0
  have HR := Lib.hid hr
  have HGI := Lib.hid hgi
  have HV := Lib.hid hvl
  have HA := Lib.hid (And.intro hax (And.intro hba (And.intro hid hbi)))
  clear h hB0 hr hgi hvl hax hba hid hbi
  have hmk : ∀ w, (Instr.makeSlice 68 (.int .i64 4) (.int .i64 4)).run Tryz.prog w = .ok (.slice (some ⟨w.heap.size, 0, none⟩) 4 4) (w.alloc (.cells (nums (List.replicate 4 0)).toArray 5)) := fun _ => by kernel_rfl
  have hmk2 : ∀ w, (Instr.makeSlice 24 (.int .i64 16) (.int .i64 16)).run Tryz.prog w = .ok (.slice (some ⟨w.heap.size, 0, none⟩) 16 16) (w.alloc (.cells (nums (List.replicate 16 0)).toArray 5)) := fun _ => by kernel_rfl
  generalize hZ : (nums (List.replicate 4 0)).toArray = Z at hmk
  have HZ := Lib.hid hZ
  clear hZ
  go_enter Tryz.func62, Tryz.ntmps62
  go_upto_region 20 with (first
    | (go_at_call 58; refine (mGet_yes0 g t _ id w0 _ HH.out HB0.out (by simp)).mono ?_; rintro e w1 ⟨A, n', c, rfl, hn', hnc, hR1, hB1, hAb⟩; obtain rfl : n' = 8 := by rw [← hn']; exact HV.out
       obtain ⟨b, o, rfl, hcell⟩ := hR1 (by simp); have x0 := hcell 0 (by simp); have x1 := hcell 1 (by simp); have x2 := hcell 2 (by simp); have x3 := hcell 3 (by simp); simp only [Nat.add_zero, List.getD_cons_zero, List.getD_cons_succ, List.cons_append] at x0 x1 x2 x3; have hR1' := Lib.hid hR1; have HB1 := Lib.hid hB1; have e0 : w1.cell? ⟨r, 0, none⟩ = some (.slice none 0 0) := (blk_cell (blk_below HR.out hB1) 0).trans rfl; have f0 := blk_free (blk_below HR.out hB1) 0; have HAb := Lib.hid hAb; clear hR1 hcell hB1 hn' hAb)
    | (go_at_call 51; refine (sbe16_any b o 2 c 0 1 _ (by omega) (by omega) (by omega) ?_ ?_).mono ?_; exact x0; exact x1; rintro e w3 ⟨rfl, k, rfl⟩; have hr1 := blk_below HR.out HB1.out; have hr1' : (w1.drewN k).heap[r]? = some (.cells #[.slice none 0 0, .int .i64 0] T (0, 0)) := hr1; have hrr := blk_alloc hr1' (.cells Z 5); have e0' : ((w1.drewN k).alloc (.cells Z 5)).cell? ⟨r, 0, none⟩ = some (.slice none 0 0) := (blk_cell hrr 0).trans rfl; have f0' := blk_free hrr 0; have HRR := Lib.hid hrr; clear hrr hr1 hr1'))
  have hbr : b < w0.heap.size := HAb.out _ rfl
  have hs1 := HB1.out.size
  have hrd : r ≠ w1.heap.size := by omega
  obtain ⟨W, hW⟩ : ∃ W, W = ((w1.drewN k).alloc (.cells Z 5)).setCell ⟨r, 0, none⟩ (.slice (some ⟨w1.heap.size, 0, none⟩) 4 4) := ⟨_, rfl⟩
  have hGF : GF w W r w1.heap.size g 4 b o id ([0, 1, X, Y] ++ xorL ax (mask id)) 0 T := by
    have hk : Kept [r] w W := by rw [hW]; exact ((((Kept.of_below HB1.out).drewN k).alloc _).setCell (.inl (by simp)) _)
    refine ⟨?_, ?_, ?_, ?_, hk⟩
    · rw [hW]; exact blk_set HRR.out 0 _
    · rw [hW, HZ.out]; exact blk_far (heap_at (w1.drewN k) _ _ rfl) (fun e => hrd e.symm) _
    · rw [hW]; exact (Rd.alloc (w := w1.drewN k) hR1'.out _).setCell _ _ (fun a e => by injection e with e; subst e; show b ≠ r; omega)
    · rw [hW]; exact (Rd.alloc (w := w1.drewN k) (show Rd (w1.drewN k) (some ⟨g, 3, none⟩) id from (HGI.out.below HB1.out : Rd w1 _ _)) _).setCell _ _ (fun a e => by injection e with e; subst e; show g ≠ r; omega)
  have HGF := Lib.hid hGF
  have hdw : w.heap.size ≤ w1.heap.size := hs1
  generalize w1.heap.size = d at *
  rw [← hW]
  clear hW hGF x0 x1 x2 x3 e0 f0 e0' f0' HRR hmk
  go_cut [12] (fun v12 wx => v12 = .nilIface ∧ Hid (GF w wx r d g 4 b o id ([0, 1, X, Y] ++ xorL ax (mask id)) 0 T))
  case first =>
    refine wp_region_held_drew (S := fun w' => w'.cell? ⟨r, 0, none⟩ = some (.slice (some ⟨d, 0, none⟩) 4 4)) (by kernel_rfl) ((blk_cell HGF.out.1 0).trans rfl) (fun hHeld => ?_)
    have n4 : (4 : Int) ≤ c := by omega
    have n4' : ¬ c = 4 := by omega
    refine wpAnyH_take (i := 0) (v := ?_) rfl (by kernel_rfl) (by kernel_rfl) (by kernel_rfl) (fun _ _ _ h => h) (Or.inl ⟨by rfl, ?_⟩) hHeld ?_
    rotate_left
    · (intro w' hSw; (try dsimp only at hSw); go_simp <;> with_reducible rfl)
    simp only [List.getElem_toArray, List.getElem_cons_succ, List.getElem_cons_zero, Act.put, List.setIfInBounds_toArray, List.set_cons_zero, List.set_cons_succ]
    refine wpAnyH_take (i := 1) (v := ?_) rfl (by kernel_rfl) (by kernel_rfl) (by kernel_rfl) (fun _ _ _ h => h) (Or.inl ⟨by rfl, ?_⟩) hHeld ?_
    rotate_left
    · (intro w' hSw; (try dsimp only at hSw); go_simp <;> with_reducible rfl)
    simp only [List.getElem_toArray, List.getElem_cons_succ, List.getElem_cons_zero, Act.put, List.setIfInBounds_toArray, List.set_cons_zero, List.set_cons_succ]
    refine wpAnyH_take (i := 2) (v := ?_) rfl (by kernel_rfl) (by kernel_rfl) (by kernel_rfl) (fun _ _ _ h => h) (Or.inl ⟨by rfl, ?_⟩) hHeld ?_
    rotate_left
    · (intro w' hSw; (try dsimp only at hSw); go_simp <;> with_reducible rfl)
    simp only [List.getElem_toArray, List.getElem_cons_succ, List.getElem_cons_zero, Act.put, List.setIfInBounds_toArray, List.set_cons_zero, List.set_cons_succ]
    refine wpAnyH_take (i := 3) (v := ?_) rfl (by kernel_rfl) (by kernel_rfl) (by kernel_rfl) (fun _ _ _ h => h) (Or.inl ⟨by rfl, ?_⟩) hHeld ?_
    rotate_left
    · (intro w' hSw; (try dsimp only at hSw); go_simp <;> with_reducible rfl)
    simp only [List.getElem_toArray, List.getElem_cons_succ, List.getElem_cons_zero, Act.put, List.setIfInBounds_toArray, List.set_cons_zero, List.set_cons_succ]
    refine wpAnyH_take (i := 4) (v := ?_) rfl (by kernel_rfl) (by kernel_rfl) (by kernel_rfl) (fun _ _ _ h => h) (Or.inl ⟨by rfl, ?_⟩) hHeld ?_
    rotate_left
    · (intro w' hSw; (try dsimp only at hSw); go_simp <;> with_reducible rfl)
    simp only [List.getElem_toArray, List.getElem_cons_succ, List.getElem_cons_zero, Act.put, List.setIfInBounds_toArray, List.set_cons_zero, List.set_cons_succ]
    refine wpAnyH_take (i := 5) (v := ?_) rfl (by kernel_rfl) (by kernel_rfl) (by kernel_rfl) (fun _ _ _ h => h) (Or.inl ⟨by rfl, ?_⟩) hHeld ?_
    rotate_left
    · (intro w' hSw; (try dsimp only at hSw); go_simp <;> with_reducible rfl)
    simp only [List.getElem_toArray, List.getElem_cons_succ, List.getElem_cons_zero, Act.put, List.setIfInBounds_toArray, List.set_cons_zero, List.set_cons_succ]
    refine wpAnyH_take (i := 6) (v := ?_) rfl (by kernel_rfl) (by kernel_rfl) (by kernel_rfl) (fun _ _ _ h => h) (Or.inl ⟨by rfl, ?_⟩) hHeld ?_
    rotate_left
    · (intro w' hSw; (try dsimp only at hSw); go_simp <;> with_reducible rfl)
    simp only [List.getElem_toArray, List.getElem_cons_succ, List.getElem_cons_zero, Act.put, List.setIfInBounds_toArray, List.set_cons_zero, List.set_cons_succ]
    refine wpAnyH_take (i := 7) (v := ?_) rfl (by kernel_rfl) (by kernel_rfl) (by kernel_rfl) (fun _ _ _ h => h) (Or.inl ⟨by rfl, ?_⟩) hHeld ?_
    rotate_left
    · (intro w' hSw; (try dsimp only at hSw); go_simp <;> with_reducible rfl)
    simp only [List.getElem_toArray, List.getElem_cons_succ, List.getElem_cons_zero, Act.put, List.setIfInBounds_toArray, List.set_cons_zero, List.set_cons_succ]
    refine wpAnyH_take (i := 8) (v := ?_) rfl (by kernel_rfl) (by kernel_rfl) (by kernel_rfl) (fun _ _ _ h => h) (Or.inl ⟨by rfl, ?_⟩) hHeld ?_
    rotate_left
    · (intro w' hSw; (try dsimp only at hSw); go_simp <;> with_reducible rfl)
    simp only [List.getElem_toArray, List.getElem_cons_succ, List.getElem_cons_zero, Act.put, List.setIfInBounds_toArray, List.set_cons_zero, List.set_cons_succ]
    refine wpAnyH_ready (rs := [9]) (by kernel_rfl) (by simp) ?_
    refine AllReadyH.cons rfl (fun K hK => ?_) AllReadyH.nil
    go_simp
    go_at_call 64
    refine (checkOver_yes t 4 4 _ (by omega)).mono ?_
    rintro e w' ⟨rfl, rfl⟩
    refine hK.out _ _ hHeld (fun hHeld => ?_)
    clear hK K
    refine wpAnyH_take (i := 10) (v := ?_) rfl (by kernel_rfl) (by kernel_rfl) (by kernel_rfl) (fun _ _ _ h => h) (Or.inl ⟨by rfl, ?_⟩) hHeld ?_
    rotate_left
    · (intro w' hSw; (try dsimp only at hSw); go_simp <;> with_reducible rfl)
    simp only [List.getElem_toArray, List.getElem_cons_succ, List.getElem_cons_zero, Act.put, List.setIfInBounds_toArray, List.set_cons_zero, List.set_cons_succ]
    refine wpAnyH_done (by kernel_rfl) ?_ _
    clear hHeld
    go_wp2_with fail
    go_meet
    exact ⟨rfl, Lib.hid HGF.out.drew⟩
  case rest =>
  clear HGF
  obtain ⟨rfl, HGF⟩ := hcut
  have HEQ : Hid (xorL (xorL ax (mask id)) (mask id) = ax) := Lib.hid (xorL_back ax (mask id) HA.out.2.1 (mask_bys id HA.out.2.2.2) (by simp [mask, HA.out.1, HA.out.2.2.1]))
  have hne : b ≠ r ∧ b ≠ d ∧ g ≠ r ∧ g ≠ d := by omega
  have n4 : (4 : Int) ≤ c := by omega
  have n4' : ¬ c = 4 := by omega
  have n2' : ¬ c = 2 := by omega
  clear HH HB0 HR HGI HV HB1 hR1' HAb HZ
  go_upto_region 23 with fail
  go_cut [] (fun wx => Hid (GF w wx r d g 4 b o id ([0, 1, X, Y] ++ xorL ax (mask id)) P T))
  case first =>
    obtain ⟨b', o', eb, hcell⟩ := HGF.out.2.2.1 (by simp)
    injection eb with eb
    injection eb with eb1 eb2
    subst eb1 eb2
    have x2 := hcell 2 (by simp)
    have x3 := hcell 3 (by simp)
    simp only [List.getD_cons_zero, List.getD_cons_succ, List.cons_append] at x2 x3
    have c1 : wc.cell? ⟨r, 1, none⟩ = some (.int .i64 0) := (blk_cell HGF.out.1 1).trans rfl
    have f1 := blk_free HGF.out.1 1
    clear hcell
    go_wp2_with (go_at_call 51; refine (sbe16_any b (o + 2) 2 (c - 2) X Y _ (by omega) hX hY ?_ ?_).mono ?_; exact x2; exact x3; rintro e w3 ⟨rfl, k, rfl⟩)
    have h1 : GF w ((wc.drewN k).setCell ⟨r, 1, none⟩ (.int .i64 P)) r d g 4 b o id ([0, 1, X, Y] ++ xorL ax (mask id)) P T :=
      ⟨blk_set (w := wc.drewN k) HGF.out.1 1 _, blk_far (w := wc.drewN k) HGF.out.2.1 (fun e => hrd e.symm) _, Rd.setCell (w := wc.drewN k) HGF.out.2.2.1 _ _ (fun a e => by injection e with e; subst e; exact hne.1), Rd.setCell (w := wc.drewN k) HGF.out.2.2.2.1 _ _ (fun a e => by injection e with e; subst e; exact hne.2.2.1), (HGF.out.2.2.2.2.drewN k).setCell (.inl (by simp)) _⟩
    go_meet
    exact Lib.hid h1
  case rest =>
  clear HGF hport
  have HGF := hcut
  clear hcut
  generalize hZ2 : (nums (List.replicate 16 0)).toArray = Z2 at hmk2
  have HZ2 := Lib.hid hZ2
  clear hZ2
  go_upto_region 24 with fail
  go_cut [13] (fun v13 wx => ∃ e, v13 = .slice (some ⟨e, 0, none⟩) 16 16 ∧ Hid (GF w wx r d g 4 b o id ([0, 1, X, Y] ++ xorL ax (mask id)) P T) ∧ Hid (wx.heap[e]? = some (.cells Z2 5 (0, 0))) ∧ Hid (wc.heap.size ≤ e))
  case first =>
    go_wp2_with fail
    go_meet
    exact ⟨wc.heap.size, rfl, Lib.hid (HGF.out.grow (below_alloc _ _)), Lib.hid (heap_alloc_new _ _), Lib.hid (Nat.le_refl _)⟩
  case rest =>
  obtain ⟨e, rfl, hgf, he, hes⟩ := hcut
  have hlt : r < e ∧ d < e ∧ w.heap.size ≤ e ∧ b < e ∧ g < e := by
    have h1 := blk_lt HGF.out.1
    have h2 := blk_lt HGF.out.2.1
    have h3 := HGF.out.2.2.2.2.size
    have h4 := hes.out
    omega
  clear HGF hes hmk2
  go_upto_region 25 with fail
  go_cut [] (fun wx => Hid (GF w wx r d g 4 b o id ([0, 1, X, Y] ++ xorL ax (mask id)) P T) ∧ Hid (wx.heap[e]? = some (.cells (nums [33, 18, 164, 66, 0, 0, 0, 0, 0, 0, 0, 0, 0, 0, 0, 0]).toArray 5 (0, 0))))
  case first =>
    have he' := he.out
    rw [← HZ2.out] at he'
    have y0 : wc.cell? ⟨e, 0, none⟩ = some (.int .u8 0) := (blk_cell he' 0).trans rfl
    have y1 : wc.cell? ⟨e, 1, none⟩ = some (.int .u8 0) := (blk_cell he' 1).trans rfl
    have y2 : wc.cell? ⟨e, 2, none⟩ = some (.int .u8 0) := (blk_cell he' 2).trans rfl
    have y3 : wc.cell? ⟨e, 3, none⟩ = some (.int .u8 0) := (blk_cell he' 3).trans rfl
    have z0 := blk_free he' 0
    have z1 := blk_free he' 1
    have z2 := blk_free he' 2
    have z3 := blk_free he' 3
    have HE' := Lib.hid he'
    clear he'
    go_wp2_with (go_at_call 30; refine (sput32_any e 0 4 16 554869826 (.int .u8 0) (.int .u8 0) (.int .u8 0) (.int .u8 0) _ (by omega) (by omega) y0 y1 y2 y3 z0 z1 z2 z3).mono ?_; rintro e' w3 ⟨rfl, rfl⟩)
    have h2 := blk_set (blk_set (blk_set (blk_set HE'.out 0 (.int .u8 33)) 1 (.int .u8 18)) 2 (.int .u8 164)) 3 (.int .u8 66)
    have hk2 : Kept [e] wc ((((wc.setCell ⟨e, 0, none⟩ (.int .u8 33)).setCell ⟨e, 1, none⟩ (.int .u8 18)).setCell ⟨e, 2, none⟩ (.int .u8 164)).setCell ⟨e, 3, none⟩ (.int .u8 66)) :=
      ((((Kept.refl [e] wc).setCell (.inl (by simp)) _).setCell (.inl (by simp)) _).setCell (.inl (by simp)) _).setCell (.inl (by simp)) _
    have h3 := hgf.out.young hk2 (by omega) (by omega) (by omega) (by omega) hlt.2.2.1
    have H2 := Lib.hid h2
    have H3 := Lib.hid h3
    clear y0 y1 y2 y3 z0 z1 z2 z3 h2 h3 hk2
    go_wp2_with fail
    go_meet
    exact ⟨H3, H2⟩
  case rest =>
  clear hgf he HZ2
  obtain ⟨hgf, he⟩ := hcut
  go_upto_region 26 with fail
  go_cut [] (fun wx => Hid (GF w wx r d g 4 b o id ([0, 1, X, Y] ++ xorL ax (mask id)) P T) ∧ Hid (wx.heap[e]? = some (.cells (nums (mask id)).toArray 5 (0, 0))))
  case first =>
    refine wp_region_held_drew (S := fun w' => True) (by kernel_rfl) trivial (fun hHeld => ?_)
    refine wpAnyH_take (i := 0) (v := ?_) rfl (by kernel_rfl) (by kernel_rfl) (by kernel_rfl) (fun _ _ _ h => h) (Or.inl ⟨by rfl, ?_⟩) hHeld ?_
    rotate_left
    · (intro w' hSw; (try dsimp only at hSw); go_simp <;> with_reducible rfl)
    simp only [List.getElem_toArray, List.getElem_cons_succ, List.getElem_cons_zero, Act.put, List.setIfInBounds_toArray, List.set_cons_zero, List.set_cons_succ]
    refine wpAnyH_take (i := 1) (v := ?_) rfl (by kernel_rfl) (by kernel_rfl) (by kernel_rfl) (fun _ _ _ h => h) (Or.inl ⟨by rfl, ?_⟩) hHeld ?_
    rotate_left
    · (intro w' hSw; (try dsimp only at hSw); go_simp <;> with_reducible rfl)
    simp only [List.getElem_toArray, List.getElem_cons_succ, List.getElem_cons_zero, Act.put, List.setIfInBounds_toArray, List.set_cons_zero, List.set_cons_succ]
    refine wpAnyH_take (i := 2) (v := ?_) rfl (by kernel_rfl) (by kernel_rfl) (by kernel_rfl) (fun _ _ _ h => h) (Or.inl ⟨by rfl, ?_⟩) hHeld ?_
    rotate_left
    · (intro w' hSw; (try dsimp only at hSw); go_simp <;> with_reducible rfl)
    simp only [List.getElem_toArray, List.getElem_cons_succ, List.getElem_cons_zero, Act.put, List.setIfInBounds_toArray, List.set_cons_zero, List.set_cons_succ]
    refine wpAnyH_take (i := 3) (v := ?_) rfl (by kernel_rfl) (by kernel_rfl) (by kernel_rfl) (fun _ _ _ h => h) (Or.inl ⟨by rfl, ?_⟩) hHeld ?_
    rotate_left
    · (intro w' hSw; (try dsimp only at hSw); go_simp <;> with_reducible rfl)
    simp only [List.getElem_toArray, List.getElem_cons_succ, List.getElem_cons_zero, Act.put, List.setIfInBounds_toArray, List.set_cons_zero, List.set_cons_succ]
    refine wpAnyH_take (i := 4) (v := ?_) rfl (by kernel_rfl) (by kernel_rfl) (by kernel_rfl) (fun _ _ _ h => h) (Or.inl ⟨by rfl, ?_⟩) hHeld ?_
    rotate_left
    · (intro w' hSw; (try dsimp only at hSw); go_simp <;> with_reducible rfl)
    simp only [List.getElem_toArray, List.getElem_cons_succ, List.getElem_cons_zero, Act.put, List.setIfInBounds_toArray, List.set_cons_zero, List.set_cons_succ]
    refine wpAnyH_take (i := 5) (v := ?_) rfl (by kernel_rfl) (by kernel_rfl) (by kernel_rfl) (fun _ _ _ h => h) (Or.inl ⟨by rfl, ?_⟩) hHeld ?_
    rotate_left
    · (intro w' hSw; (try dsimp only at hSw); go_simp <;> with_reducible rfl)
    simp only [List.getElem_toArray, List.getElem_cons_succ, List.getElem_cons_zero, Act.put, List.setIfInBounds_toArray, List.set_cons_zero, List.set_cons_succ]
    refine wpAnyH_ready (rs := [6]) (by kernel_rfl) (by simp) ?_
    refine AllReadyH.cons rfl (fun K hK => ?_) AllReadyH.nil
    refine step_copy_own 107 rfl rfl (.tmp 102) (.tmp 106) 24 24 rfl 5 Tryz.underlying24 (by kernel_rfl) e 4 12 12 ⟨g, 3, none⟩ 12 12 rfl rfl (nums [33, 18, 164, 66, 0, 0, 0, 0, 0, 0, 0, 0, 0, 0, 0, 0]).toArray 5 ?_ (nums id) ?_ ?_ ?_ (nums_one id) ?_
    · exact he.out
    · rw [nums_length, HA.out.2.2.1]; rfl
    · exact rd_src hgf.out.2.2.2.1
    · rw [nums_length, HA.out.2.2.1]; simp [nums]
    simp only [Act.put, List.setIfInBounds_toArray, List.set_cons_zero, List.set_cons_succ]
    have hcp : ∀ (w : World), w.heap[e]? = some (.cells (nums [33, 18, 164, 66, 0, 0, 0, 0, 0, 0, 0, 0, 0, 0, 0, 0]).toArray 5 (0, 0)) →
        (w.setRow e ((nums [33, 18, 164, 66, 0, 0, 0, 0, 0, 0, 0, 0, 0, 0, 0, 0]).toArray.toList.take 4 ++ (nums id ++ (nums [33, 18, 164, 66, 0, 0, 0, 0, 0, 0, 0, 0, 0, 0, 0, 0]).toArray.toList.drop (4 + (nums id).length))).toArray).heap[e]? = some (.cells (nums (mask id)).toArray 5 (0, 0)) := by
      intro w hw
      obtain ⟨j0, j1, j2, j3, j4, j5, j6, j7, j8, j9, j10, j11, rfl⟩ := list12 id HA.out.2.2.1
      exact (setRow_heap w e _ _ _ _ hw).trans rfl
    have HM := Lib.hid (hcp wc.drew he.out)
    have HG2 := Lib.hid (hgf.out.drew.young (kept_setRow wc.drew e ((nums [33, 18, 164, 66, 0, 0, 0, 0, 0, 0, 0, 0, 0, 0, 0, 0]).toArray.toList.take 4 ++ (nums id ++ (nums [33, 18, 164, 66, 0, 0, 0, 0, 0, 0, 0, 0, 0, 0, 0, 0]).toArray.toList.drop (4 + (nums id).length))).toArray) (by omega) (by omega) (by omega) (by omega) hlt.2.2.1)
    clear hcp
    refine hK.out _ _ trivial (fun hHeld => ?_)
    clear hK K
    refine wpAnyH_done (by kernel_rfl) ?_ _
    go_wp2_with fail
    go_meet
    exact ⟨HG2, HM⟩
  case rest =>
  clear hgf he
  obtain ⟨hgf, he⟩ := hcut
  go_upto_region 27 with fail
  go_cut [] (fun wx => Hid (wx.heap[r]? = some (.cells #[.slice (some ⟨d, 0, none⟩) 4 4, .int .i64 P] T (0, 0)) ∧ Rd wx (some ⟨d, 0, none⟩) ax ∧ Kept [r] w wx))
  case first =>
    have hdr : d ≠ r := fun e => hrd e.symm
    have hd4 : ((([0, 1, X, Y] ++ xorL ax (mask id))).drop 4) = xorL ax (mask id) := rfl
    obtain ⟨A4, q4, hA4, hA4b⟩ := cut_fk (P := Tryz.prog) Tryz.underlying24 info_u8 (some ⟨b, o, none⟩) 8 c 4 4 4 rfl (by omega) hnc
    have hR4 := hA4 wc _ (by simp [xorL_length, mask, HA.out.1, HA.out.2.2.1]) hgf.out.2.2.1
    rw [hd4] at hR4
    have hA4n : ∀ a, A4 = some a → a.block ≠ d := fun a ea => by obtain ⟨a0, e0, h0⟩ := hA4b a ea; injection e0 with e0; subst e0; rw [← h0]; exact hne.2.1
    have HR4 := Lib.hid hR4
    have HA4n := Lib.hid hA4n
    clear hA4 hA4b hR4 hA4n hd4
    generalize c - 4 = c4 at q4
    refine wp_region_held_drew (S := fun w' => w'.cell? ⟨r, 0, none⟩ = some (.slice (some ⟨d, 0, none⟩) 4 4)) (by kernel_rfl) ((blk_cell hgf.out.1 0).trans rfl) (fun hHeld => ?_)
    refine wpAnyH_take (i := 0) (v := ?_) rfl (by kernel_rfl) (by kernel_rfl) (by kernel_rfl) (fun _ _ _ h => h) (Or.inl ⟨by rfl, ?_⟩) hHeld ?_
    rotate_left
    · (intro w' hSw; (try dsimp only at hSw); go_simp <;> with_reducible rfl)
    simp only [List.getElem_toArray, List.getElem_cons_succ, List.getElem_cons_zero, Act.put, List.setIfInBounds_toArray, List.set_cons_zero, List.set_cons_succ]
    refine wpAnyH_take (i := 1) (v := ?_) rfl (by kernel_rfl) (by kernel_rfl) (by kernel_rfl) (fun _ _ _ h => h) (Or.inl ⟨by rfl, ?_⟩) hHeld ?_
    rotate_left
    · (intro w' hSw; (try dsimp only at hSw); go_simp <;> with_reducible rfl)
    simp only [List.getElem_toArray, List.getElem_cons_succ, List.getElem_cons_zero, Act.put, List.setIfInBounds_toArray, List.set_cons_zero, List.set_cons_succ]
    refine wpAnyH_take (i := 2) (v := ?_) rfl (by kernel_rfl) (by kernel_rfl) (by kernel_rfl) (fun _ _ _ h => h) (Or.inl ⟨by rfl, ?_⟩) hHeld ?_
    rotate_left
    · (intro w' hSw; (try dsimp only at hSw); go_simp <;> with_reducible rfl)
    simp only [List.getElem_toArray, List.getElem_cons_succ, List.getElem_cons_zero, Act.put, List.setIfInBounds_toArray, List.set_cons_zero, List.set_cons_succ]
    refine wpAnyH_take (i := 3) (v := ?_) rfl (by kernel_rfl) (by kernel_rfl) (by kernel_rfl) (fun _ _ _ h => h) (Or.inl ⟨by rfl, ?_⟩) hHeld ?_
    rotate_left
    · (intro w' hSw; (try dsimp only at hSw); go_simp <;> with_reducible rfl)
    simp only [List.getElem_toArray, List.getElem_cons_succ, List.getElem_cons_zero, Act.put, List.setIfInBounds_toArray, List.set_cons_zero, List.set_cons_succ]
    refine wpAnyH_take (i := 4) (v := ?_) rfl (by kernel_rfl) (by kernel_rfl) (by kernel_rfl) (fun _ _ _ h => h) (Or.inl ⟨by rfl, ?_⟩) hHeld ?_
    rotate_left
    · (intro w' hSw; (try dsimp only at hSw); go_simp <;> with_reducible rfl)
    simp only [List.getElem_toArray, List.getElem_cons_succ, List.getElem_cons_zero, Act.put, List.setIfInBounds_toArray, List.set_cons_zero, List.set_cons_succ]
    refine wpAnyH_take (i := 5) (v := ?_) rfl (by kernel_rfl) (by kernel_rfl) (by kernel_rfl) (fun _ _ _ h => h) (Or.inl ⟨by rfl, ?_⟩) hHeld ?_
    rotate_left
    · (intro w' hSw; (try dsimp only at hSw); go_simp <;> with_reducible rfl)
    simp only [List.getElem_toArray, List.getElem_cons_succ, List.getElem_cons_zero, Act.put, List.setIfInBounds_toArray, List.set_cons_zero, List.set_cons_succ]
    refine wpAnyH_take (i := 6) (v := ?_) rfl (by kernel_rfl) (by kernel_rfl) (by kernel_rfl) (fun _ _ _ h => h) (Or.inl ⟨by rfl, ?_⟩) hHeld ?_
    rotate_left
    · (intro w' hSw; (try dsimp only at hSw); go_simp <;> with_reducible rfl)
    simp only [List.getElem_toArray, List.getElem_cons_succ, List.getElem_cons_zero, Act.put, List.setIfInBounds_toArray, List.set_cons_zero, List.set_cons_succ]
    refine wpAnyH_ready (rs := [7]) (by kernel_rfl) (by simp) ?_
    refine AllReadyH.cons rfl (fun K hK => ?_) AllReadyH.nil
    go_simp
    go_at_call 65
    refine (xorBytes_any d 0 4 4 4 c4 16 16 A4 (some ⟨e, 0, none⟩) (xorL ax (mask id)) (mask id) (nums (List.replicate 4 0)) 5 _ ?_ ?_ ?_ (by omega) (by omega) (by omega) (by simp [nums]) (by omega) ?_ ?_ HA4n.out ?_ (by omega)).mono ?_
    · exact hgf.out.2.1
    · simp [xorL_length, mask, HA.out.1, HA.out.2.2.1]
    · simp [mask, HA.out.2.2.1]
    · exact HR4.out
    · exact rd_blk he.out
    · intro a ea; injection ea with ea; subst ea; show e ≠ d; omega
    rintro e' w5 ⟨rfl, hd5, hk5⟩
    have hk5' : Kept [d] wc w5 := ⟨hk5.os, hk5.tape, hk5.output, hk5.size, hk5.block⟩
    have hr5 := blk_kept hgf.out.1 hk5' (by simpa using hrd)
    rw [HEQ.out] at hd5
    have hd6 : w5.heap[d]? = some (.cells (nums ax).toArray 5 (0, 0)) := by
      rw [hd5]
      have : (nums (List.replicate 4 0)).drop (0 + 4) = [] := by simp [nums]
      rw [this]
      simp
    have hfin : Kept [r] w w5 := hgf.out.2.2.2.2.trans hk5' (fun t ht => by simp at ht; subst ht; exact .inr hdw)
    refine hK.out _ _ ((blk_cell hr5 0).trans rfl) (fun hHeld => ?_)
    clear hK K hHeld
    refine wpAnyH_done (by kernel_rfl) ?_ _
    have HF := Lib.hid (And.intro hr5 (And.intro (rd_blk hd6) hfin))
    clear hr5 hd5 hd6 hfin hk5 hk5'
    go_wp2_with fail
    go_meet
    exact HF
  case rest =>
  clear hgf he
  go_wp2_with fail
  go_ret
  exact ⟨rfl, d, hcut.out.1, hcut.out.2.1, hcut.out.2.2⟩
end Go.Proofs.YthgghgejndncnaaGreat
