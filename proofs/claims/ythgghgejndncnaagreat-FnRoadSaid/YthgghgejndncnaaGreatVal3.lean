/- 'spec.Value' of an address. -/
import Derived.Test.YthgghgejndncnaaGreatNew
import Derived.Test.YthgghgejndncnaaGreatDraw
import Derived.Deep.Cut
import Derived.Deep.CutRange
import Derived.Deep.DeepCutAuto
import Derived.Deep.LoopGhost
namespace Go.Proofs.YthgghgejndncnaaGreat
open Go.RowKit
set_option linter.unusedSimpArgs false
set_option linter.unusedVariables false

set_option maxRecDepth 100000 in
set_option maxHeartbeats 4000000 in
theorem value_3 (id : List Int) (N : Int) (aA : Option Addr) (an ac : Nat) (ax : List Int) (P : Int) (dA : Option Addr) (dn dc : Nat) (dx : List Int) (w : World) (hid : id.length = 12) (hP : 0 ≤ P ∧ P ≤ 65535) (ha : ax.length = an) (hac : an ≤ ac) (hR : Rd w aA ax) (h16 : an = 4 ∨ an = 16) :
    Calls Tryz.prog 23 #[.int .i64 3, idV id, atV N aA an ac P dA dn dc] w fun e w' => ∃ v, e = .returned v ∧ Reads w' v (valB 3 N ax P dx id) ∧ Below w.heap.size w w' := by
  have HR := Lib.hid ((hR.alloc (.cells (nums id).toArray 22)).alloc (.cells #[.int .u32 N, .slice aA an ac, .int .i64 P, .slice dA dn dc] 34))
  have HRw := Lib.hid hR
  have HA := Lib.hid ha
  have HD := Lib.hid hid
  have HB : Hid (Below w.heap.size w ((w.alloc (.cells (nums id).toArray 22)).alloc (.cells #[.int .u32 N, .slice aA an ac, .int .i64 P, .slice dA dn dc] 34))) := Lib.hid (below_then (below_alloc _ _) (below_alloc _ _))
  have HI : Hid (((w.alloc (.cells (nums id).toArray 22)).alloc (.cells #[.int .u32 N, .slice aA an ac, .int .i64 P, .slice dA dn dc] 34)).heap[w.heap.size]? = some (.cells (nums id).toArray 22 (0, 0))) := Lib.hid (blk_alloc (heap_alloc_new w _) _)
  have HT : Hid (((w.alloc (.cells (nums id).toArray 22)).alloc (.cells #[.int .u32 N, .slice aA an ac, .int .i64 P, .slice dA dn dc] 34)).heap[w.heap.size + 1]? = some (.cells #[.int .u32 N, .slice aA an ac, .int .i64 P, .slice dA dn dc] 34 (0, 0))) := Lib.hid (by have := heap_alloc_new (w.alloc (.cells (nums id).toArray 22)) (.cells #[.int .u32 N, .slice aA an ac, .int .i64 P, .slice dA dn dc] 34); simpa using this)
  clear hR ha hid
  have hw : IntKind.u32.wrap P = P := wraps_u32 P (by omega) (by omega)
  have hn60 : an ≤ 16 := by omega
  go_enter Tryz.func23, Tryz.ntmps23
  go_upto_if 33 with fail
  go_cut [7] (fun v7 wx => v7 = .int .u8 (fam ax.length) ∧ Hid (Rd wx aA ax) ∧ Hid (wx.heap[w.heap.size]? = some (.cells (nums id).toArray 22 (0, 0))) ∧ Hid (wx.heap[w.heap.size + 1]? = some (.cells #[.int .u32 N, .slice aA an ac, .int .i64 P, .slice dA dn dc] 34 (0, 0))) ∧ Hid (Below w.heap.size w wx))
  case first =>
    rcases h16 with h | h
    · have t0 : ((an : Int) == 16) = false := by rw [beq_eq_false_iff_ne]; omega
      go_wp2_with fail
      go_meet
      exact ⟨by rw [fam, if_neg (by have := HA.out; omega)], HR, HI, HT, HB⟩
    · have t0 : ((an : Int) == 16) = true := by rw [beq_iff_eq]; omega
      go_wp2_with fail
      go_meet
      exact ⟨by rw [fam, if_pos (by have := HA.out; omega)], HR, HI, HT, HB⟩
  case rest =>
  obtain ⟨rfl, hr, hi, ht, hb⟩ := hcut
  clear HR HI HT HB
  have c0 : wc.cell? ⟨w.heap.size + 1, 2, none⟩ = some (.int .i64 P) := (blk_cell ht.out 2).trans rfl
  go_upto_region 13 with (go_at_call 46; refine (put2_new _ _ (by omega)).mono ?_; rintro e w1 ⟨g1, rfl, hn1⟩)
  clear c0
  replace hr := Lib.hid (hr.out.below hn1.2.2.2.2)
  replace hi := Lib.hid (blk_below hi.out hn1.2.2.2.2)
  replace ht := Lib.hid (blk_below ht.out hn1.2.2.2.2)
  replace hb := Lib.hid (below_then hb.out hn1.2.2.2.2)
  have hP1 := Lib.hid hn1.2.2.2.1
  clear hn1
  go_cut [9] (fun v9 wx => ∃ g4, v9 = .slice (some ⟨g4, 0, none⟩) 4 4 ∧ Hid (w.heap.size + 1 < g4 ∧ g4 < wx.heap.size ∧ wx.ownsRow g4 5 1 (.slice (some ⟨g4, 0, none⟩) 4 4) 4 (nums [0, fam ax.length, x8 (P / 256 % 256) 33, x8 (P % 256) 18])) ∧ Hid (Rd wx aA ax) ∧ Hid (wx.heap[w.heap.size]? = some (.cells (nums id).toArray 22 (0, 0))) ∧ Hid (wx.heap[w.heap.size + 1]? = some (.cells #[.int .u32 N, .slice aA an ac, .int .i64 P, .slice dA dn dc] 34 (0, 0))) ∧ Hid (Below w.heap.size w wx))
  case first =>
    refine wp_region_held_drew (S := fun w' => w'.cell? ⟨g1, 0, none⟩ = some (.int .u8 (P / 256 % 256)) ∧ w'.cell? ⟨g1, 1, none⟩ = some (.int .u8 (P % 256))) (by kernel_rfl) ⟨rd_cell hP1.out 0 (by simp [put2]), rd_cell hP1.out 1 (by simp [put2])⟩ (fun hHeld => ?_)
    refine wpAnyH_take (i := 0) (v := ?_) rfl (by kernel_rfl) (by kernel_rfl) (by kernel_rfl) (fun _ _ _ h => h) (Or.inl ⟨by rfl, ?_⟩) hHeld ?_
    rotate_left
    · (intro w' hSw; (try dsimp only at hSw); go_simp <;> with_reducible rfl)
    simp only [List.getElem_toArray, List.getElem_cons_succ, List.getElem_cons_zero, Act.put, List.setIfInBounds_toArray, List.set_cons_zero, List.set_cons_succ]
    refine wpAnyH_take (i := 1) (v := ?_) rfl (by kernel_rfl) (by kernel_rfl) (by kernel_rfl) (fun _ _ _ h => h) (Or.inl ⟨by rfl, ?_⟩) hHeld ?_
    rotate_left
    · (intro w' hSw; (try dsimp only at hSw); go_simp <;> with_reducible rfl)
    simp only [List.getElem_toArray, List.getElem_cons_succ, List.getElem_cons_zero, Act.put, List.setIfInBounds_toArray, List.set_cons_zero, List.set_cons_succ]
    refine wpAnyH_take (i := 2) (v := ?_) rfl (by kernel_rfl) (by kernel_rfl) (by kernel_rfl) (fun _ _ _ h => h) (Or.inl ⟨by rfl, ?_⟩) hHeld ?_
    rotate_left
    · (intro w' hSw; (try dsimp only at hSw); go_simp <;> with_reducible rfl)
    simp only [List.getElem_toArray, List.getElem_cons_succ, List.getElem_cons_zero, Act.put, List.setIfInBounds_toArray, List.set_cons_zero, List.set_cons_succ]
    refine wpAnyH_take (i := 3) (v := ?_) rfl (by kernel_rfl) (by kernel_rfl) (by kernel_rfl) (fun _ _ _ h => h) (Or.inl ⟨by rfl, ?_⟩) hHeld ?_
    rotate_left
    · (intro w' hSw; (try dsimp only at hSw); go_simp <;> with_reducible rfl)
    simp only [List.getElem_toArray, List.getElem_cons_succ, List.getElem_cons_zero, Act.put, List.setIfInBounds_toArray, List.set_cons_zero, List.set_cons_succ]
    refine wpAnyH_take (i := 8) (v := ?_) rfl (by kernel_rfl) (by kernel_rfl) (by kernel_rfl) (fun _ _ _ h => h) (Or.inl ⟨by rfl, ?_⟩) hHeld ?_
    rotate_left
    · (intro w' hSw; (try dsimp only at hSw); go_simp <;> with_reducible rfl)
    simp only [List.getElem_toArray, List.getElem_cons_succ, List.getElem_cons_zero, Act.put, List.setIfInBounds_toArray, List.set_cons_zero, List.set_cons_succ]
    refine wpAnyH_take (i := 9) (v := ?_) rfl (by kernel_rfl) (by kernel_rfl) (by kernel_rfl) (fun _ _ _ h => h) (Or.inl ⟨by rfl, ?_⟩) hHeld ?_
    rotate_left
    · (intro w' hSw; (try dsimp only at hSw); go_simp <;> with_reducible rfl)
    simp only [List.getElem_toArray, List.getElem_cons_succ, List.getElem_cons_zero, Act.put, List.setIfInBounds_toArray, List.set_cons_zero, List.set_cons_succ]
    refine wpAnyH_take (i := 10) (v := ?_) rfl (by kernel_rfl) (by kernel_rfl) (by kernel_rfl) (fun _ _ _ h => h) (Or.inl ⟨by rfl, ?_⟩) hHeld ?_
    rotate_left
    · (intro w' hSw; (try dsimp only at hSw); go_simp <;> with_reducible rfl)
    simp only [List.getElem_toArray, List.getElem_cons_succ, List.getElem_cons_zero, Act.put, List.setIfInBounds_toArray, List.set_cons_zero, List.set_cons_succ]
    refine wpAnyH_ready (rs := [4]) (by kernel_rfl) (by simp) ?_
    refine AllReadyH.cons rfl (fun K hK => ?_) AllReadyH.nil
    go_simp
    go_at_call 47
    refine (cookie_new _).mono ?_
    rintro e w2 ⟨g2, rfl, hn2⟩
    have hR1 : Rd w2 (some ⟨g1, 0, none⟩) (put2 P) := (hP1.out.drew).below hn2.2.2.2.2
    refine hK.out _ _ ⟨rd_cell hR1 0 (by simp [put2]), rd_cell hR1 1 (by simp [put2])⟩ (fun hHeld => ?_)
    clear hK K
    refine wpAnyH_strong (S' := fun w' => w'.cell? ⟨g1, 0, none⟩ = some (.int .u8 (P / 256 % 256)) ∧ w'.cell? ⟨g1, 1, none⟩ = some (.int .u8 (P % 256)) ∧ w'.cell? ⟨g2, 0, none⟩ = some (.int .u8 33)) (fun w' h => ⟨h.1, h.2.1⟩) _ _ _ _ ?_
    replace hHeld : (fun w' : World => w'.cell? ⟨g1, 0, none⟩ = some (.int .u8 (P / 256 % 256)) ∧ w'.cell? ⟨g1, 1, none⟩ = some (.int .u8 (P % 256)) ∧ w'.cell? ⟨g2, 0, none⟩ = some (.int .u8 33)) w2 := ⟨hHeld.1, hHeld.2, rd_cell hn2.2.2.2.1 0 (by simp)⟩
    refine wpAnyH_take (i := 5) (v := ?_) rfl (by kernel_rfl) (by kernel_rfl) (by kernel_rfl) (fun _ _ _ h => h) (Or.inl ⟨by rfl, ?_⟩) hHeld ?_
    rotate_left
    · (intro w' hSw; (try dsimp only at hSw); go_simp <;> with_reducible rfl)
    simp only [List.getElem_toArray, List.getElem_cons_succ, List.getElem_cons_zero, Act.put, List.setIfInBounds_toArray, List.set_cons_zero, List.set_cons_succ]
    refine wpAnyH_take (i := 6) (v := ?_) rfl (by kernel_rfl) (by kernel_rfl) (by kernel_rfl) (fun _ _ _ h => h) (Or.inl ⟨by rfl, ?_⟩) hHeld ?_
    rotate_left
    · (intro w' hSw; (try dsimp only at hSw); go_simp <;> with_reducible rfl)
    simp only [List.getElem_toArray, List.getElem_cons_succ, List.getElem_cons_zero, Act.put, List.setIfInBounds_toArray, List.set_cons_zero, List.set_cons_succ]
    refine wpAnyH_take (i := 7) (v := ?_) rfl (by kernel_rfl) (by kernel_rfl) (by kernel_rfl) (fun _ _ _ h => h) (Or.inl ⟨by rfl, ?_⟩) hHeld ?_
    rotate_left
    · (intro w' hSw; (try dsimp only at hSw); go_simp <;> with_reducible rfl)
    simp only [List.getElem_toArray, List.getElem_cons_succ, List.getElem_cons_zero, Act.put, List.setIfInBounds_toArray, List.set_cons_zero, List.set_cons_succ]
    refine wpAnyH_ready (rs := [11]) (by kernel_rfl) (by simp) ?_
    refine AllReadyH.cons rfl (fun K hK => ?_) AllReadyH.nil
    go_simp
    go_at_call 47
    refine (cookie_new _).mono ?_
    rintro e w3 ⟨g3, rfl, hn3⟩
    replace hR1 := hR1.below hn3.2.2.2.2
    have hR2 := hn2.2.2.2.1.below hn3.2.2.2.2
    refine hK.out _ _ ⟨rd_cell hR1 0 (by simp [put2]), rd_cell hR1 1 (by simp [put2]), rd_cell hR2 0 (by simp)⟩ (fun hHeld => ?_)
    clear hK K
    refine wpAnyH_strong (S' := fun w' => w'.cell? ⟨g1, 0, none⟩ = some (.int .u8 (P / 256 % 256)) ∧ w'.cell? ⟨g1, 1, none⟩ = some (.int .u8 (P % 256)) ∧ w'.cell? ⟨g2, 0, none⟩ = some (.int .u8 33) ∧ w'.cell? ⟨g3, 1, none⟩ = some (.int .u8 18)) (fun w' h => ⟨h.1, h.2.1, h.2.2.1⟩) _ _ _ _ ?_
    replace hHeld : (fun w' : World => w'.cell? ⟨g1, 0, none⟩ = some (.int .u8 (P / 256 % 256)) ∧ w'.cell? ⟨g1, 1, none⟩ = some (.int .u8 (P % 256)) ∧ w'.cell? ⟨g2, 0, none⟩ = some (.int .u8 33) ∧ w'.cell? ⟨g3, 1, none⟩ = some (.int .u8 18)) w3 := ⟨hHeld.1, hHeld.2.1, hHeld.2.2, rd_cell hn3.2.2.2.1 1 (by simp)⟩
    refine wpAnyH_take (i := 12) (v := ?_) rfl (by kernel_rfl) (by kernel_rfl) (by kernel_rfl) (fun _ _ _ h => h) (Or.inl ⟨by rfl, ?_⟩) hHeld ?_
    rotate_left
    · (intro w' hSw; (try dsimp only at hSw); go_simp <;> with_reducible rfl)
    simp only [List.getElem_toArray, List.getElem_cons_succ, List.getElem_cons_zero, Act.put, List.setIfInBounds_toArray, List.set_cons_zero, List.set_cons_succ]
    refine wpAnyH_take (i := 13) (v := ?_) rfl (by kernel_rfl) (by kernel_rfl) (by kernel_rfl) (fun _ _ _ h => h) (Or.inl ⟨by rfl, ?_⟩) hHeld ?_
    rotate_left
    · (intro w' hSw; (try dsimp only at hSw); go_simp <;> with_reducible rfl)
    simp only [List.getElem_toArray, List.getElem_cons_succ, List.getElem_cons_zero, Act.put, List.setIfInBounds_toArray, List.set_cons_zero, List.set_cons_succ]
    refine wpAnyH_take (i := 14) (v := ?_) rfl (by kernel_rfl) (by kernel_rfl) (by kernel_rfl) (fun _ _ _ h => h) (Or.inl ⟨by rfl, ?_⟩) hHeld ?_
    rotate_left
    · (intro w' hSw; (try dsimp only at hSw); go_simp <;> with_reducible rfl)
    simp only [List.getElem_toArray, List.getElem_cons_succ, List.getElem_cons_zero, Act.put, List.setIfInBounds_toArray, List.set_cons_zero, List.set_cons_succ]
    refine wpAnyH_ready (rs := [15]) (by kernel_rfl) (by simp) ?_
    refine AllReadyH.cons rfl (fun K hK => ?_) AllReadyH.nil
    go_simp
    refine hK.out _ _ ⟨rd_cell (hR1.alloc _) 0 (by simp [put2]), rd_cell (hR1.alloc _) 1 (by simp [put2]), rd_cell (hR2.alloc _) 0 (by simp), rd_cell (hn3.2.2.2.1.alloc _) 1 (by simp)⟩ (fun hHeld => ?_)
    clear hK K
    refine wpAnyH_take (i := 16) (v := ?_) rfl (by kernel_rfl) (by kernel_rfl) (by kernel_rfl) (fun _ _ _ h => h) (Or.inl ⟨by rfl, ?_⟩) hHeld ?_
    rotate_left
    · (intro w' hSw; (try dsimp only at hSw); go_simp <;> with_reducible rfl)
    simp only [List.getElem_toArray, List.getElem_cons_succ, List.getElem_cons_zero, Act.put, List.setIfInBounds_toArray, List.set_cons_zero, List.set_cons_succ]
    refine wpAnyH_done (by kernel_rfl) ?_ _
    clear hHeld hR1 hR2
    have hB3 := below_then (below_then (below_drew hn2.2.2.2.2) hn3.2.2.2.2) (below_alloc w3 (.cells #[.int .u8 0, .int .u8 (fam ax.length), .int .u8 (x8 (P / 256 % 256) 33), .int .u8 (x8 (P % 256) 18)] 5))
    have hs3 : w1.heap.size ≤ w3.heap.size := Nat.le_trans (below_drew hn2.2.2.2.2).size hn3.2.2.2.2.size
    have hs1 := blk_lt ht.out
    go_wp2_with fail
    go_meet
    exact ⟨w3.heap.size, rfl, Lib.hid ⟨by omega, by simp, own_new w3 _ _ [0, fam ax.length, x8 (P / 256 % 256) 33, x8 (P % 256) 18] rfl (Nat.le_refl _) (by simp)⟩, Lib.hid (hr.out.below hB3), Lib.hid (blk_below hi.out hB3), Lib.hid (blk_below ht.out hB3), Lib.hid (below_then hb.out hB3)⟩
  case rest =>
  clear hr hi ht hb hP1
  obtain ⟨g4, rfl, ho, hr, hi, ht, hb⟩ := hcut
  go_upto_region 14 with fail
  go_cut [10] (fun v10 wx => ∃ A c, v10 = .slice A 16 c ∧ Hid (16 ≤ c ∧ w.heap.size + 1 < g4 ∧ g4 < wx.heap.size ∧ wx.ownsRow g4 5 1 (.slice (some ⟨g4, 0, none⟩) 4 4) 4 (nums [0, fam ax.length, x8 (P / 256 % 256) 33, x8 (P % 256) 18])) ∧ Hid (Rd wx A (mask id) ∧ ∀ a, A = some a → a.block ≠ g4 ∧ a.block < wx.heap.size) ∧ Hid (Rd wx aA ax) ∧ Hid (wx.heap[w.heap.size]? = some (.cells (nums id).toArray 22 (0, 0))) ∧ Hid (wx.heap[w.heap.size + 1]? = some (.cells #[.int .u32 N, .slice aA an ac, .int .i64 P, .slice dA dn dc] 34 (0, 0))) ∧ Hid (Below w.heap.size w wx))
  case first =>
    refine wp_region_held_drew (S := fun w' => True) (by kernel_rfl) trivial (fun hHeld => ?_)
    refine wpAnyH_take (i := 3) (v := ?_) rfl (by kernel_rfl) (by kernel_rfl) (by kernel_rfl) (fun _ _ _ h => h) (Or.inl ⟨by rfl, ?_⟩) hHeld ?_
    rotate_left
    · (intro w' hSw; (try dsimp only at hSw); go_simp <;> with_reducible rfl)
    simp only [List.getElem_toArray, List.getElem_cons_succ, List.getElem_cons_zero, Act.put, List.setIfInBounds_toArray, List.set_cons_zero, List.set_cons_succ]
    refine wpAnyH_ready (rs := [0, 1]) (by kernel_rfl) (by simp) ?_
    refine AllReadyH.cons rfl (fun K hK => ?_) (AllReadyH.cons rfl (fun K hK => ?_) AllReadyH.nil)
    · go_simp
      refine hK.out _ _ trivial (fun hHeld => ?_)
      clear hK K
      refine wpAnyH_ready (rs := [1]) (by kernel_rfl) (by simp) ?_
      refine AllReadyH.cons rfl (fun K hK => ?_) AllReadyH.nil
      go_simp
      go_at_call 47
      refine (cookie_new _).mono ?_
      rintro e w5 ⟨g5, rfl, hn5'⟩
      have hB5 : Below wc.heap.size wc w5 := below_then (below_alloc wc (.cells #[] 5)) (below_drew hn5'.2.2.2.2)
      have hO5 : w5.ownsRow wc.heap.size 5 1 (.slice (some ⟨wc.heap.size, 0, none⟩) 0 0) 0 (nums []) := own_below (own_new wc _ _ [] rfl (Nat.le_refl _) (by simp)) (below_drew hn5'.2.2.2.2)
      have hn5 := hn5'.2.2.2.1
      refine hK.out _ _ trivial (fun hHeld => ?_)
      clear hK K
      refine wpAnyH_ready (rs := [2]) (by kernel_rfl) (by simp) ?_
      refine AllReadyH.cons rfl (fun K hK => ?_) AllReadyH.nil
      refine step_app_d 56 rfl Tryz.underlying24 wc.heap.size w5 rfl (.tmp 54) (.tmp 55) rfl (.slice (some ⟨wc.heap.size, 0, none⟩) 0 0) [] [33, 18, 164, 66] 0 4 (some ⟨g5, 0, none⟩) 4 rfl rfl rfl rfl hO5 hn5 hB5.size (by omega) ?_
      intro v6 w6 hown6 hg6
      simp only [Act.put, List.setIfInBounds_toArray, List.set_cons_zero, List.set_cons_succ]
      have hB6 := hB5.grown hg6.out.1 hB5.size (own_base hO5)
      refine hK.out _ _ trivial (fun hHeld => ?_)
      clear hK K
      refine wpAnyH_ready (rs := [4]) (by kernel_rfl) (by simp) ?_
      refine AllReadyH.cons rfl (fun K hK => ?_) AllReadyH.nil
      refine step_app_d 58 rfl Tryz.underlying24 wc.heap.size w6 rfl (.tmp 56) (.tmp 57) rfl v6 ([] ++ [33, 18, 164, 66]) id (0 + 4) 12 (some ⟨w.heap.size, 0, none⟩) 12 (by simp) HD.out rfl rfl hown6 ((rd_blk hi.out).below hB6) hB6.size (by omega) ?_
      intro v7 w7 hown7 hg7
      simp only [Act.put, List.setIfInBounds_toArray, List.set_cons_zero, List.set_cons_succ]
      have hB7 := hB6.grown hg7.out.1 hB6.size (own_base hown6)
      refine hK.out _ _ trivial (fun hHeld => ?_)
      clear hK K
      refine wpAnyH_take (i := 5) (v := ?_) rfl (by kernel_rfl) (by kernel_rfl) (by kernel_rfl) (fun _ _ _ h => h) (Or.inl ⟨by rfl, ?_⟩) hHeld ?_
      rotate_left
      · (intro w' hSw; (try dsimp only at hSw); go_simp <;> with_reducible rfl)
      simp only [List.getElem_toArray, List.getElem_cons_succ, List.getElem_cons_zero, Act.put, List.setIfInBounds_toArray, List.set_cons_zero, List.set_cons_succ]
      refine wpAnyH_done (by kernel_rfl) ?_ _
      obtain ⟨-, A7, c7, rfl, hc7, hcm7, hR7⟩ := own_rd hown7
      go_wp2_with fail
      go_meet
      exact ⟨A7, c7, rfl, Lib.hid ⟨hc7, ho.out.1, Nat.lt_of_lt_of_le ho.out.2.1 hB7.size, own_below ho.out.2.2 hB7⟩, Lib.hid ⟨hR7, fun a ha => by subst ha; have := hown7.lt a.block rfl; have := ho.out.2.1; omega⟩, Lib.hid (hr.out.below hB7), Lib.hid (blk_below hi.out hB7), Lib.hid (blk_below ht.out hB7), Lib.hid (below_then hb.out hB7)⟩
    · go_simp
      go_at_call 47
      refine (cookie_new _).mono ?_
      rintro e w4 ⟨g5, rfl, hn5'⟩
      have hB4 : Below wc.heap.size wc w4 := below_drew hn5'.2.2.2.2
      refine hK.out _ _ trivial (fun hHeld => ?_)
      clear hK K
      refine wpAnyH_ready (rs := [0]) (by kernel_rfl) (by simp) ?_
      refine AllReadyH.cons rfl (fun K hK => ?_) AllReadyH.nil
      go_simp
      obtain ⟨w5, hw5⟩ : ∃ w5, w5 = w4.alloc (.cells #[] 5) := ⟨_, rfl⟩
      have hB5 : Below wc.heap.size wc w5 := by rw [hw5]; exact below_then hB4 (below_alloc w4 _)
      have hO5 : w5.ownsRow wc.heap.size 5 1 (.slice (some ⟨w4.heap.size, 0, none⟩) 0 0) 0 (nums []) := by rw [hw5]; exact own_new w4 _ _ [] rfl hB4.size (by simp)
      have hn5 : Rd w5 (some ⟨g5, 0, none⟩) [33, 18, 164, 66] := by rw [hw5]; exact hn5'.2.2.2.1.alloc _
      rw [← hw5]
      refine hK.out _ _ trivial (fun hHeld => ?_)
      clear hK K
      refine wpAnyH_ready (rs := [2]) (by kernel_rfl) (by simp) ?_
      refine AllReadyH.cons rfl (fun K hK => ?_) AllReadyH.nil
      refine step_app_d 56 rfl Tryz.underlying24 wc.heap.size w5 rfl (.tmp 54) (.tmp 55) rfl (.slice (some ⟨w4.heap.size, 0, none⟩) 0 0) [] [33, 18, 164, 66] 0 4 (some ⟨g5, 0, none⟩) 4 rfl rfl rfl rfl hO5 hn5 hB5.size (by omega) ?_
      intro v6 w6 hown6 hg6
      simp only [Act.put, List.setIfInBounds_toArray, List.set_cons_zero, List.set_cons_succ]
      have hB6 := hB5.grown hg6.out.1 hB5.size (own_base hO5)
      refine hK.out _ _ trivial (fun hHeld => ?_)
      clear hK K
      refine wpAnyH_ready (rs := [4]) (by kernel_rfl) (by simp) ?_
      refine AllReadyH.cons rfl (fun K hK => ?_) AllReadyH.nil
      refine step_app_d 58 rfl Tryz.underlying24 wc.heap.size w6 rfl (.tmp 56) (.tmp 57) rfl v6 ([] ++ [33, 18, 164, 66]) id (0 + 4) 12 (some ⟨w.heap.size, 0, none⟩) 12 (by simp) HD.out rfl rfl hown6 ((rd_blk hi.out).below hB6) hB6.size (by omega) ?_
      intro v7 w7 hown7 hg7
      simp only [Act.put, List.setIfInBounds_toArray, List.set_cons_zero, List.set_cons_succ]
      have hB7 := hB6.grown hg7.out.1 hB6.size (own_base hown6)
      refine hK.out _ _ trivial (fun hHeld => ?_)
      clear hK K
      refine wpAnyH_take (i := 5) (v := ?_) rfl (by kernel_rfl) (by kernel_rfl) (by kernel_rfl) (fun _ _ _ h => h) (Or.inl ⟨by rfl, ?_⟩) hHeld ?_
      rotate_left
      · (intro w' hSw; (try dsimp only at hSw); go_simp <;> with_reducible rfl)
      simp only [List.getElem_toArray, List.getElem_cons_succ, List.getElem_cons_zero, Act.put, List.setIfInBounds_toArray, List.set_cons_zero, List.set_cons_succ]
      refine wpAnyH_done (by kernel_rfl) ?_ _
      obtain ⟨-, A7, c7, rfl, hc7, hcm7, hR7⟩ := own_rd hown7
      go_wp2_with fail
      go_meet
      exact ⟨A7, c7, rfl, Lib.hid ⟨hc7, ho.out.1, Nat.lt_of_lt_of_le ho.out.2.1 hB7.size, own_below ho.out.2.2 hB7⟩, Lib.hid ⟨hR7, fun a ha => by subst ha; have := hown7.lt a.block rfl; have := ho.out.2.1; omega⟩, Lib.hid (hr.out.below hB7), Lib.hid (blk_below hi.out hB7), Lib.hid (blk_below ht.out hB7), Lib.hid (below_then hb.out hB7)⟩
  case rest =>
  clear ho hr hi ht hb
  obtain ⟨A, c, rfl, ho, hm, hr, hi, ht, hb⟩ := hcut
  have h0 : 0 < an := by omega
  have hgw : w.heap.size + 1 < g4 := ho.out.2.1
  obtain ⟨ba, oa, rfl, -⟩ := hr.out (by intro e; have := HA.out; rw [e] at this; simp at this; omega)
  obtain ⟨bm, om, rfl, -⟩ := hm.out.1 (by simp [mask])
  have n16 : (16 : Int) ≤ c := by have := ho.out.1; omega
  have c1 : wc.cell? ⟨w.heap.size + 1, 1, none⟩ = some (.slice (some ⟨ba, oa, none⟩) an ac) := (blk_cell ht.out 1).trans rfl
  go_wp2_with fail
  clear c1
  have hml : (mask id).length = 16 := by simp [mask, HD.out]
  have HML := Lib.hid hml
  have HR0 : Hid (Rd w (some ⟨ba, oa, none⟩) ax) := HRw
  clear hml
  go_loopg [9, 62] an (fun kq v9 v62 wr => ∃ i : Nat, kq + i = an ∧ v62 = .int .i64 i ∧ Hid (wr.ownsRow g4 5 1 v9 (4 + i) (nums ([0, fam ax.length, x8 (P / 256 % 256) 33, x8 (P % 256) 18] ++ (xorL ax (mask id)).take i))) ∧ Hid (Rd wr (some ⟨bm, om, none⟩) (mask id) ∧ bm < wr.heap.size ∧ v9.ownBlock ≠ some bm) ∧ Hid (g4 ≤ wr.heap.size) ∧ Hid (Below w.heap.size w wr))
  case atStart =>
    exact ⟨0, by omega, rfl, Lib.hid (by simpa using ho.out.2.2.2), Lib.hid ⟨hm.out.1, (hm.out.2 _ rfl).2, fun e => (hm.out.2 _ rfl).1 (by injection e with e; exact e.symm)⟩, Lib.hid (Nat.le_of_lt ho.out.2.2.1), hb⟩
  case round =>
    clear ho hm hr hi ht hb
    obtain ⟨i, hi, rfl, hO, hm, hs, hb⟩ := hrel
    obtain ⟨-, A9, c9, rfl, hc9, hcm9, -⟩ := own_rd hO.out
    by_cases hlt : i < an
    · have t0 : decide ((i : Int) < an) = true := decide_eq_true (by omega)
      have t1 : (i : Int) < 16 := by omega
      have t2 : (i : Int) < an := by omega
      have hx : wr.cell? ⟨ba, oa + i, none⟩ = some (.int .u8 (ax.getD i 0)) := by
        obtain ⟨b', o', e, hc⟩ := (HR0.out.below hb.out).at_ (j := i) (by have := HA.out; omega)
        injection e with e; injection e with e1 e2; subst e1 e2; exact hc
      have hy : wr.cell? ⟨bm, om + i, none⟩ = some (.int .u8 ((mask id).getD i 0)) := by
        obtain ⟨b', o', e, hc⟩ := hm.out.1.at_ (j := i) (by have := HML.out; omega)
        injection e with e; injection e with e1 e2; subst e1 e2; exact hc
      have hxt := xorL_take ax (mask id) i (by have := HA.out; omega) (by have := HML.out; omega)
      have HXT := Lib.hid hxt
      clear hxt
      generalize ax.getD i 0 = x at *
      generalize (mask id).getD i 0 = y at *
      have hB1 : Below w.heap.size w (wr.alloc (.cells #[.int .u8 (x8 x y)] 5)) := below_then hb.out (below_alloc _ _)
      have HB1 := Lib.hid hB1
      clear hB1
      go_wp2_with (at_builtin; refine wp_app Tryz.underlying24 g4 (wr.alloc (.cells #[.int .u8 (x8 x y)] 5)) rfl (.tmp 67) (.tmp 74) rfl (.slice A9 (4 + i) c9) _ [x8 x y] (4 + i) 1 (some ⟨wr.heap.size, 0, none⟩) 1 (own_rd hO.out).1 rfl rfl rfl (hO.out.alloc _) (rd_new wr _ [x8 x y] rfl) (by have := hs.out; simp; omega) (by omega) wr ((Below.refl g4 wr).alloc hs.out _) ?_; intro v3 w3 hown3 hB3 hg3)
      go_roundg (gk - 1)
      case measure => omega
      case rel =>
        have hKp : Kept (Value.ownBlock (.slice A9 (4 + i) c9)).toList (wr.alloc (.cells #[.int .u8 (x8 x y)] 5)) w3 := Kept.of_grown hg3.out.1 (fun g e => .inl (by simp [e]))
        refine ⟨i + 1, by omega, by simp, Lib.hid ?_, Lib.hid ⟨(hm.out.1.alloc _).kept hKp (fun a e => by injection e with e; subst e; simpa using hm.out.2.2), Nat.lt_of_lt_of_le hm.out.2.1 hB3.size, ?_⟩, Lib.hid (Nat.le_trans hs.out hB3.size), Lib.hid (hb.out.trans (hB3.mono (by omega)))⟩
        · rw [HXT.out, ← List.append_assoc]; exact hown3
        · rcases hg3.out.2 with e | e
          · rw [e]; exact hm.out.2.2
          · rw [e]; intro e2; injection e2 with e2; have := hm.out.2.1; simp at e2; omega
    · obtain rfl : i = an := by omega
      have t0 : decide ((i : Int) < i) = false := decide_eq_false (by omega)
      go_wp2_with fail
      go_ret
      refine ⟨_, rfl, ?_, hb.out⟩
      have hv : valB 3 N ax P dx id = [0, fam ax.length, x8 (P / 256 % 256) 33, x8 (P % 256) 18] ++ xorL ax (mask id) := by simp [valB]
      have hO' := hO.out
      rw [List.take_of_length_le (by rw [xorL_length, HA.out, HML.out]; omega), ← hv] at hO'
      exact reads_own hO'

end Go.Proofs.YthgghgejndncnaaGreat
