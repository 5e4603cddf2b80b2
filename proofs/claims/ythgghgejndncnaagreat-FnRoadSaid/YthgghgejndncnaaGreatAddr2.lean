/- '(XORMappedAddress).AddToAs': an address of four bytes, or of sixteen that stands for none of four. -/
import Derived.Test.YthgghgejndncnaaGreatAddr1
import Derived.Deep.Cut
import Derived.Deep.CutRange
import Derived.Deep.DeepCutAuto
namespace Go.Proofs.YthgghgejndncnaaGreat
open Go.RowKit
set_option linter.unusedSimpArgs false
set_option linter.unusedVariables false

/-- what stays while an address is laid -/
structure XSt (w wx : World) (bx : Obj) (e1 e2 : Nat) (V M : List Int) : Prop where
  bel : Below w.heap.size w wx
  box : wx.heap[w.heap.size]? = some bx
  v : wx.heap[e1]? = some (.cells (nums V).toArray 5 (0, 0))
  m : wx.heap[e2]? = some (.cells (nums M).toArray 5 (0, 0))
  ord : w.heap.size < e1 ∧ e1 < e2
section
variable {w wx wy : World} {bx : Obj} {e1 e2 : Nat} {V V' M M' : List Int}
theorem XSt.setv (h : XSt w wx bx e1 e2 V M) (k : Kept [e1] wx wy) (hv : wy.heap[e1]? = some (.cells (nums V').toArray 5 (0, 0))) : XSt w wy bx e1 e2 V' M := by
  have := h.ord
  exact ⟨((Kept.of_below (S := []) h.bel).trans k (fun t ht => by simp at ht; subst ht; exact .inr (by omega))).toBelow, blk_kept h.box k (by simp; omega), hv, blk_kept h.m k (by simp; omega), h.ord⟩
theorem XSt.setm (h : XSt w wx bx e1 e2 V M) (k : Kept [e2] wx wy) (hm : wy.heap[e2]? = some (.cells (nums M').toArray 5 (0, 0))) : XSt w wy bx e1 e2 V M' := by
  have := h.ord
  exact ⟨((Kept.of_below (S := []) h.bel).trans k (fun t ht => by simp at ht; subst ht; exact .inr (by omega))).toBelow, blk_kept h.box k (by simp; omega), blk_kept h.v k (by simp; omega), hm, h.ord⟩
theorem XSt.drew (h : XSt w wx bx e1 e2 V M) : XSt w wx.drew bx e1 e2 V M := ⟨(Kept.of_below (S := []) h.bel).drew.toBelow, h.box, h.v, h.m, h.ord⟩
end

set_option maxRecDepth 100000 in
set_option maxHeartbeats 4000000 in
theorem addToAs_any (A : Option Addr) (N c : Nat) (ax : List Int) (P t : Int) (g rb : Nat) (id bs : List Int) (w : World) (h : Fresh w g rb id bs) (hP : 0 ≤ P ∧ P ≤ 65535) (ht : 0 ≤ t ∧ t ≤ 255) (hax : ax.length = N) (hN : N = 4 ∨ (N = 16 ∧ mappedB ax = false)) (hNc : N ≤ c) (hR : Rd w A ax) :
    Calls Tryz.prog 100 #[.agg #[.slice A N c, .int .i64 P], .pointer (some ⟨g, 0, none⟩), .int .u16 t] w fun e w' => e = .returned .nilIface ∧ Added w w' g rb id t ([0, fam N, x8 (P / 256 % 256) 33, x8 (P % 256) 18] ++ xorL ax (mask id)) := by
  have hpf := port_fwd P hP
  have hX := x8_rng (P / 256 % 256) 33 (by omega) (by omega)
  have hY := x8_rng (P % 256) 18 (by omega) (by omega)
  generalize x8 (P / 256 % 256) 33 = X at *
  generalize x8 (P % 256) 18 = Y at *
  have hw16 : IntKind.u16.wrap (X * 256 + Y) = X * 256 + Y := wraps_u16 _ (by omega) (by omega)
  have hFr := fam_rng N
  have hid : id.length = 12 := h.1.1.1
  have hN16 : 4 ≤ N ∧ N ≤ 16 := by omega
  obtain ⟨ba, oa, rfl, -⟩ := hR (by intro e; subst e; simp at hax; omega)
  have hmk : ∀ w, (Instr.makeSlice 24 (.int .i64 160) (.int .i64 160)).run Tryz.prog w = .ok (.slice (some ⟨w.heap.size, 0, none⟩) 160 160) (w.alloc (.cells (nums (List.replicate 160 0)).toArray 5)) := fun _ => by kernel_rfl
  have hmk2 : ∀ w, (Instr.makeSlice 24 (.int .i64 16) (.int .i64 16)).run Tryz.prog w = .ok (.slice (some ⟨w.heap.size, 0, none⟩) 16 16) (w.alloc (.cells (nums (List.replicate 16 0)).toArray 5)) := fun _ => by kernel_rfl
  generalize hZ : (nums (List.replicate 160 0)).toArray = Z at hmk
  generalize hZ2 : (nums (List.replicate 16 0)).toArray = Z2 at hmk2
  have HZ := Lib.hid (And.intro hZ hZ2)
  have HA := Lib.hid (And.intro hax (And.intro hid hR))
  have H := Lib.hid h
  have HPF := Lib.hid (And.intro hpf hw16)
  have HN := Lib.hid hN
  clear h hax hid hR hZ hZ2 hN hpf hw16
  have hbox : (w.alloc (.cells #[.slice (some ⟨ba, oa, none⟩) N c, .int .i64 P] 131)).heap[w.heap.size]? = some (.cells #[.slice (some ⟨ba, oa, none⟩) N c, .int .i64 P] 131 (0, 0)) := heap_alloc_new _ _
  have hB0 : Below w.heap.size w (w.alloc (.cells #[.slice (some ⟨ba, oa, none⟩) N c, .int .i64 P] 131)) := below_alloc _ _
  have HB0 := Lib.hid (And.intro hbox hB0)
  clear hbox hB0
  go_enter Tryz.func100, Tryz.ntmps100
  go_upto_if 16 with fail
  go_cut [7, 8] (fun v7 v8 wx => v7 = .int .u16 (fam N) ∧ v8 = .slice (some ⟨ba, oa, none⟩) N c ∧ Hid (wx.heap[w.heap.size]? = some (.cells #[.slice (some ⟨ba, oa, none⟩) N c, .int .i64 P] 131 (0, 0)) ∧ Below w.heap.size w wx ∧ wx.heap.size = w.heap.size + 1))
  case first =>
    rcases HN.out with h4 | ⟨h16, hm⟩
    · subst h4
      clear HPF
      go_wp2_with fail
      go_meet
      exact ⟨rfl, rfl, Lib.hid ⟨HB0.out.1, HB0.out.2, by simp⟩⟩
    · subst h16
      have HM := Lib.hid hm
      clear hm HPF
      go_wp2_with (go_at_call 101; refine (isIPv4_no ba oa c ax _ HA.out.1 hNc HM.out ?_).mono ?_; exact HA.out.2.2.below HB0.out.2; rintro e w' ⟨rfl, rfl⟩)
      go_meet
      exact ⟨rfl, rfl, Lib.hid ⟨HB0.out.1, HB0.out.2, by simp⟩⟩
  case rest =>
  clear HB0
  obtain ⟨rfl, rfl, hb⟩ := hcut
  have hz0 : Z[0]? = some (.int .u8 0) := by rw [← HZ.out.1]; rfl
  go_upto_region 12 with fail
  obtain ⟨W, hW⟩ : ∃ W, W = (wc.alloc (.cells (Z.setIfInBounds 0 (.int .u8 0)) 5)).alloc (.cells Z2 5) := ⟨_, rfl⟩
  have hx : XSt w W (.cells #[.slice (some ⟨ba, oa, none⟩) N c, .int .i64 P] 131 (0, 0)) wc.heap.size (wc.heap.size + 1) (List.replicate 160 0) (List.replicate 16 0) := by
    have hs := hb.out.2.2
    refine ⟨?_, ?_, ?_, ?_, by omega⟩
    · rw [hW]; exact ((hb.out.2.1).alloc (by omega) _).alloc (by simp; omega) _
    · rw [hW]; exact blk_alloc (blk_alloc hb.out.1 _) _
    · rw [hW, ← HZ.out.1]; exact blk_alloc (heap_alloc_new wc _) _
    · rw [hW, HZ.out.2]; exact heap_at _ _ _ (by simp)
  rw [← hW]
  have HX := Lib.hid hx
  clear hW hx hb hmk hmk2 hz0
  generalize wc.heap.size + 1 = e2 at *
  generalize wc.heap.size = e1 at *
  have hgm := H.out.1.lt
  refine wp_region_held_drew (S := fun w' => True) (by kernel_rfl) trivial (fun hHeld => ?_)
  refine wpAnyH_take (i := 0) (v := ?_) rfl (by kernel_rfl) (by kernel_rfl) (by kernel_rfl) (fun _ _ _ h => h) (Or.inl ⟨by rfl, ?_⟩) hHeld ?_
  rotate_left
  · (intro w' hSw; (try dsimp only at hSw); go_simp <;> with_reducible rfl)
  simp only [List.getElem_toArray, List.getElem_cons_succ, List.getElem_cons_zero, Act.put, List.setIfInBounds_toArray, List.set_cons_zero, List.set_cons_succ]
  refine wpAnyH_take (i := 1) (v := ?_) rfl (by kernel_rfl) (by kernel_rfl) (by kernel_rfl) (fun _ _ _ h => h) (Or.inl ⟨by rfl, ?_⟩) hHeld ?_
  rotate_left
  · (intro w' hSw; (try dsimp only at hSw); go_simp <;> with_reducible rfl)
  simp only [List.getElem_toArray, List.getElem_cons_succ, List.getElem_cons_zero, Act.put, List.setIfInBounds_toArray, List.set_cons_zero, List.set_cons_succ]
  refine wpAnyH_take (i := 2) (v := ?_) rfl (by kernel_rfl) (by kernel_rfl) (by kernel_rfl) (fun _ _ _ h => h) (Or.inl ⟨by rfl, ?_⟩) hHeld ?_
  rotate_left
  · (intro w' hSw; (try dsimp only at hSw); go_simp <;> with_reducible rfl)
  simp only [List.getElem_toArray, List.getElem_cons_succ, List.getElem_cons_zero, Act.put, List.setIfInBounds_toArray, List.set_cons_zero, List.set_cons_succ]
  refine wpAnyH_take (i := 3) (v := ?_) rfl (by kernel_rfl) (by kernel_rfl) (by kernel_rfl) (fun _ _ _ h => h) (Or.inl ⟨by rfl, ?_⟩) hHeld ?_
  rotate_left
  · (intro w' hSw; (try dsimp only at hSw); go_simp <;> with_reducible rfl)
  simp only [List.getElem_toArray, List.getElem_cons_succ, List.getElem_cons_zero, Act.put, List.setIfInBounds_toArray, List.set_cons_zero, List.set_cons_succ]
  refine wpAnyH_take (i := 4) (v := ?_) rfl (by kernel_rfl) (by kernel_rfl) (by kernel_rfl) (fun _ _ _ h => h) (Or.inl ⟨by rfl, ?_⟩) hHeld ?_
  rotate_left
  · (intro w' hSw; (try dsimp only at hSw); go_simp <;> with_reducible rfl)
  simp only [List.getElem_toArray, List.getElem_cons_succ, List.getElem_cons_zero, Act.put, List.setIfInBounds_toArray, List.set_cons_zero, List.set_cons_succ]
  refine wpAnyH_take (i := 5) (v := ?_) rfl (by kernel_rfl) (by kernel_rfl) (by kernel_rfl) (fun _ _ _ h => h) (Or.inl ⟨by rfl, ?_⟩) hHeld ?_
  rotate_left
  · (intro w' hSw; (try dsimp only at hSw); go_simp <;> with_reducible rfl)
  simp only [List.getElem_toArray, List.getElem_cons_succ, List.getElem_cons_zero, Act.put, List.setIfInBounds_toArray, List.set_cons_zero, List.set_cons_succ]
  refine wpAnyH_ready (rs := [6]) (by kernel_rfl) (by simp) ?_
  refine AllReadyH.cons rfl (fun K hK => ?_) AllReadyH.nil
  refine step_copy_own 35 rfl rfl (.tmp 30) (.tmp 34) 24 24 rfl 5 Tryz.underlying24 (by kernel_rfl) e2 4 12 12 ⟨g, 3, none⟩ 12 12 rfl rfl (nums (List.replicate 16 0)).toArray 5 ?_ (nums id) ?_ ?_ ?_ (nums_one id) ?_
  · exact HX.out.m
  · rw [nums_length, HA.out.2.1]; rfl
  · exact rd_src (H.out.below (w' := W.drew) HX.out.drew.bel).1.1.rd
  · rw [nums_length, HA.out.2.1]; simp [nums]
  simp only [Act.put, List.setIfInBounds_toArray, List.set_cons_zero, List.set_cons_succ]
  have hr := setRow_nums (w := W.drew) (cs := id) HX.out.m 4
  have hk := kept_setRow W.drew e2 ((nums (List.replicate 16 0)).toArray.toList.take 4 ++ (nums id ++ (nums (List.replicate 16 0)).toArray.toList.drop (4 + (nums id).length))).toArray
  have hM : (List.replicate 16 (0 : Int)).take 4 ++ id ++ (List.replicate 16 0).drop (4 + id.length) = [0, 0, 0, 0] ++ id := by
    rw [HA.out.2.1]; simp
  rw [hM] at hr
  have hx1 := HX.out.drew.setm hk hr
  generalize W.drew.setRow e2 ((nums (List.replicate 16 0)).toArray.toList.take 4 ++ (nums id ++ (nums (List.replicate 16 0)).toArray.toList.drop (4 + (nums id).length))).toArray = W1 at *
  refine hK.out _ _ trivial (fun hHeld => ?_)
  clear hK K
  refine wpAnyH_done (by kernel_rfl) ?_ _
  have HX1 := Lib.hid hx1
  have y0 : W1.cell? ⟨e2, 0, none⟩ = some (.int .u8 0) := (blk_cell hx1.m 0).trans rfl
  have y1 : W1.cell? ⟨e2, 1, none⟩ = some (.int .u8 0) := (blk_cell hx1.m 1).trans rfl
  have y2 : W1.cell? ⟨e2, 2, none⟩ = some (.int .u8 0) := (blk_cell hx1.m 2).trans rfl
  have y3 : W1.cell? ⟨e2, 3, none⟩ = some (.int .u8 0) := (blk_cell hx1.m 3).trans rfl
  have z0 := blk_free hx1.m 0
  have z1 := blk_free hx1.m 1
  have z2 := blk_free hx1.m 2
  have z3 := blk_free hx1.m 3
  clear hx1 hr hk hM HX
  go_wp2_with fail
  refine (sput32_any e2 0 4 16 554869826 (.int .u8 0) (.int .u8 0) (.int .u8 0) (.int .u8 0) _ (by omega) (by omega) y0 y1 y2 y3 z0 z1 z2 z3).mono ?_
  rintro e w2 ⟨rfl, hw2⟩
  have hx2 : XSt w w2 (.cells #[.slice (some ⟨ba, oa, none⟩) N c, .int .i64 P] 131 (0, 0)) e1 e2 (List.replicate 160 0) (mask id) := by
    rw [hw2]
    exact HX1.out.setm (((((Kept.refl [e2] W1).setCell (.inl (by simp)) _).setCell (.inl (by simp)) _).setCell (.inl (by simp)) _).setCell (.inl (by simp)) _) (blk_set (blk_set (blk_set (blk_set HX1.out.m 0 (.int .u8 33)) 1 (.int .u8 18)) 2 (.int .u8 164)) 3 (.int .u8 66))
  have HX2 := Lib.hid hx2
  have y0 : w2.cell? ⟨e1, 0, none⟩ = some (.int .u8 0) := (blk_cell hx2.v 0).trans rfl
  have y1 : w2.cell? ⟨e1, 1, none⟩ = some (.int .u8 0) := (blk_cell hx2.v 1).trans rfl
  have z0 := blk_free hx2.v 0
  have z1 := blk_free hx2.v 1
  clear hx2 hw2 HX1 y2 y3 z2 z3
  go_wp2_with fail
  refine (sput16_any e1 0 2 160 (fam N) (.int .u8 0) (.int .u8 0) _ (by omega) (by omega) y0 y1 z0 z1).mono ?_
  rintro e w3 ⟨rfl, hw3⟩
  have hF0 : fam N / 256 = 0 := by omega
  have hF1 : fam N % 256 = fam N := by omega
  have hx3 : XSt w w3 (.cells #[.slice (some ⟨ba, oa, none⟩) N c, .int .i64 P] 131 (0, 0)) e1 e2 ([0, fam N] ++ List.replicate 158 0) (mask id) := by
    rw [hw3, hF0, hF1]
    exact HX2.out.setv (((Kept.refl [e1] w2).setCell (.inl (by simp)) _).setCell (.inl (by simp)) _) (blk_set (blk_set HX2.out.v 0 (.int .u8 0)) 1 (.int .u8 (fam N)))
  have HX3 := Lib.hid hx3
  clear hx3 hw3 HX2 y0 y1 z0 z1 hF0 hF1
  go_upto_region 15 with fail
  have xb1 : w3.cell? ⟨w.heap.size, 1, none⟩ = some (.int .i64 P) := (blk_cell HX3.out.box 1).trans rfl
  have hpf := HPF.out.1
  have hpw := HPF.out.2
  refine wp_region_held_drew (S := fun w' => w'.cell? ⟨w.heap.size, 1, none⟩ = some (.int .i64 P)) (by kernel_rfl) xb1 (fun hHeld => ?_)
  refine wpAnyH_take (i := 0) (v := ?_) rfl (by kernel_rfl) (by kernel_rfl) (by kernel_rfl) (fun _ _ _ h => h) (Or.inl ⟨by rfl, ?_⟩) hHeld ?_
  rotate_left
  · (intro w' hSw; (try dsimp only at hSw); go_simp <;> with_reducible rfl)
  simp only [List.getElem_toArray, List.getElem_cons_succ, List.getElem_cons_zero, Act.put, List.setIfInBounds_toArray, List.set_cons_zero, List.set_cons_succ]
  refine wpAnyH_take (i := 1) (v := ?_) rfl (by kernel_rfl) (by kernel_rfl) (by kernel_rfl) (fun _ _ _ h => h) (Or.inl ⟨by rfl, ?_⟩) hHeld ?_
  rotate_left
  · (intro w' hSw; (try dsimp only at hSw); go_simp <;> with_reducible rfl)
  simp only [List.getElem_toArray, List.getElem_cons_succ, List.getElem_cons_zero, Act.put, List.setIfInBounds_toArray, List.set_cons_zero, List.set_cons_succ]
  refine wpAnyH_take (i := 2) (v := ?_) rfl (by kernel_rfl) (by kernel_rfl) (by kernel_rfl) (fun _ _ _ h => h) (Or.inl ⟨by rfl, ?_⟩) hHeld ?_
  rotate_left
  · (intro w' hSw; (try dsimp only at hSw); go_simp <;> with_reducible rfl)
  simp only [List.getElem_toArray, List.getElem_cons_succ, List.getElem_cons_zero, Act.put, List.setIfInBounds_toArray, List.set_cons_zero, List.set_cons_succ]
  refine wpAnyH_take (i := 3) (v := ?_) rfl (by kernel_rfl) (by kernel_rfl) (by kernel_rfl) (fun _ _ _ h => h) (Or.inl ⟨by rfl, ?_⟩) hHeld ?_
  rotate_left
  · (intro w' hSw; (try dsimp only at hSw); go_simp <;> with_reducible rfl)
  simp only [List.getElem_toArray, List.getElem_cons_succ, List.getElem_cons_zero, Act.put, List.setIfInBounds_toArray, List.set_cons_zero, List.set_cons_succ]
  refine wpAnyH_take (i := 4) (v := ?_) rfl (by kernel_rfl) (by kernel_rfl) (by kernel_rfl) (fun _ _ _ h => h) (Or.inl ⟨by rfl, ?_⟩) hHeld ?_
  rotate_left
  · (intro w' hSw; (try dsimp only at hSw); go_simp <;> with_reducible rfl)
  simp only [List.getElem_toArray, List.getElem_cons_succ, List.getElem_cons_zero, Act.put, List.setIfInBounds_toArray, List.set_cons_zero, List.set_cons_succ]
  refine wpAnyH_take (i := 5) (v := ?_) rfl (by kernel_rfl) (by kernel_rfl) (by kernel_rfl) (fun _ _ _ h => h) (Or.inl ⟨by rfl, ?_⟩) hHeld ?_
  rotate_left
  · (intro w' hSw; (try dsimp only at hSw); go_simp <;> with_reducible rfl)
  simp only [List.getElem_toArray, List.getElem_cons_succ, List.getElem_cons_zero, Act.put, List.setIfInBounds_toArray, List.set_cons_zero, List.set_cons_succ]
  refine wpAnyH_ready (rs := [6]) (by kernel_rfl) (by simp) ?_
  refine AllReadyH.cons rfl (fun K hK => ?_) AllReadyH.nil
  go_simp
  go_at_call 49
  have y0 : w3.cell? ⟨e1, 2, none⟩ = some (.int .u8 0) := (blk_cell HX3.out.v 2).trans rfl
  have y1 : w3.cell? ⟨e1, 3, none⟩ = some (.int .u8 0) := (blk_cell HX3.out.v 3).trans rfl
  have z0 := blk_free HX3.out.v 2
  have z1 := blk_free HX3.out.v 3
  refine (sput16_any e1 2 2 158 (X * 256 + Y) (.int .u8 0) (.int .u8 0) w3.drew (by omega) (by omega) y0 y1 z0 z1).mono ?_
  rintro e w4 ⟨rfl, hw4⟩
  have hF0 : (X * 256 + Y) / 256 = X := by omega
  have hF1 : (X * 256 + Y) % 256 = Y := by omega
  have hx4 : XSt w w4 (.cells #[.slice (some ⟨ba, oa, none⟩) N c, .int .i64 P] 131 (0, 0)) e1 e2 ([0, fam N, X, Y] ++ List.replicate 156 0) (mask id) := by
    rw [hw4, hF0, hF1]
    exact HX3.out.drew.setv (((Kept.refl [e1] w3.drew).setCell (.inl (by simp)) _).setCell (.inl (by simp)) _) (blk_set (blk_set (w := w3.drew) HX3.out.v 2 (.int .u8 X)) 3 (.int .u8 Y))
  have HX4 := Lib.hid hx4
  refine hK.out _ _ ((blk_cell hx4.box 1).trans rfl) (fun hHeld => ?_)
  clear hK K hx4 hw4 HX3 y0 y1 z0 z1 hF0 hF1 hHeld hpf hpw xb1
  refine wpAnyH_done (by kernel_rfl) ?_ _
  have q16 := fun W => sl_mid e1 0 160 160 4 (4 + N) N 4 (4 + (N : Int)) rfl (by omega) rfl (by omega) (by omega) W
  have q17 := fun W => sl_to e1 0 160 160 (4 + N) (4 + (N : Int)) (by omega) (by omega) W
  have hRw := HA.out.2.2.below HX4.out.bel
  have HRW := Lib.hid hRw
  have hba : ba < w.heap.size := by
    obtain ⟨b', o', e', hc⟩ := HA.out.2.2 (by intro e; have := HA.out.1; subst e; simp at this; omega)
    injection e' with e'
    injection e' with e1' e2'
    subst e1' e2'
    have := World.block_lt_of_cell? w _ (hc 0 (by have := HA.out.1; omega))
    simpa using this
  clear hRw
  go_wp2_with fail
  have hord := HX4.out.ord
  refine (xorBytes_any e1 4 N 156 N c 16 16 (some ⟨ba, oa, none⟩) (some ⟨e2, 0, none⟩) ax (mask id) (nums ([0, fam N, X, Y] ++ List.replicate 156 0)) 5 _ HX4.out.v HA.out.1 (by simp [mask, HA.out.2.1]) (by omega) (by omega) (by omega) (by simp [nums]; omega) (by omega) HRW.out (rd_blk HX4.out.m) (fun a e => by injection e with e; subst e; show ba ≠ e1; omega) (fun a e => by injection e with e; subst e; show e2 ≠ e1; omega) (by omega)).mono ?_
  rintro e w5 ⟨rfl, hv5, hk5⟩
  have hv5' : w5.heap[e1]? = some (.cells (nums (([0, fam N, X, Y] ++ xorL ax (mask id)) ++ (List.replicate 156 0).drop N)).toArray 5 (0, 0)) := by
    rw [hv5]
    have t4 : (nums ([0, fam N, X, Y] ++ List.replicate 156 0)).take 4 = nums [0, fam N, X, Y] := rfl
    have d4 : (nums ([0, fam N, X, Y] ++ List.replicate 156 0)).drop (4 + N) = nums ((List.replicate 156 0).drop N) := by
      rw [show nums ([0, fam N, X, Y] ++ List.replicate 156 0) = nums [0, fam N, X, Y] ++ nums (List.replicate 156 0) from nums_append _ _]
      rw [List.drop_append, show (nums [0, fam N, X, Y]).length = 4 from rfl, List.drop_eq_nil_of_le (by simp [nums]), Nat.add_sub_cancel_left, List.nil_append]
      simp [nums]
    rw [t4, d4, ← nums_append, ← nums_append]
  have hB5 := (HX4.out.setv hk5 hv5').bel
  have HF := Lib.hid (And.intro (rd_prefix (rd_blk hv5')) hB5)
  clear hv5 hk5 hv5' hB5 q16 HX4
  go_wp2_with fail
  refine (mAdd_f g rb id bs t (some ⟨e1, 0, none⟩) (4 + N) 160 ([0, fam N, X, Y] ++ xorL ax (mask id)) w _ H.out HF.out.2 ht (by simp [xorL_length, mask, HA.out.1, HA.out.2.1]; omega) (by omega) HF.out.1 (at_new H.out (by omega))).mono ?_
  rintro e w6 ⟨rfl, hA⟩
  have HAA := Lib.hid hA
  clear hA
  go_wp2_with fail
  go_ret
  exact ⟨rfl, HAA.out⟩
end Go.Proofs.YthgghgejndncnaaGreat
