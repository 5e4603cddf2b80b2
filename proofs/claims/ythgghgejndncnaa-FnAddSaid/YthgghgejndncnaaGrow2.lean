/- '(*Message).grow' where there is no room. -/
import Derived.Test.YthgghgejndncnaaGrow
namespace Go.Proofs.Ythgghgejndncnaa
open Go.RowKit
set_option linter.unusedSimpArgs false
set_option linter.unusedVariables false

theorem zeroCells_u8 (k : Nat) : Builtin.zeroCells (Value.int .u8 0).cells k = (nums (List.replicate k 0)).toArray := by
  apply Array.ext'
  simp [Builtin.zeroCells, nums, Value.cells, Nat.mod_one]
  rw [List.eq_replicate_iff]
  simp

/-- the same, the new row as bytes -/
theorem run_app_make_u8 (w : World) (rb n n' : Nat) (bs : List Int) (hb : w.heap[rb]? = some (.cells (nums bs).toArray 5 (0, 0))) (hn : n < n') (hnb : n ≤ bs.length) (hc : bs.length < n') (hsm : n' ≤ 100000) :
    ∃ bs' : List Int, ((Builtin.append_ #[24, 3] 24 #[.slice (some ⟨rb, 0, none⟩) n bs.length, .int .i64 ((n' - n : Nat) : Int)]).run Try.prog w.drew =
      .ok (.slice (some ⟨w.heap.size, 0, none⟩) n' bs'.length) (w.drew.drew.alloc (.cells (nums bs').toArray 5))) ∧ bs'.take n = bs.take n ∧ n' ≤ bs'.length := by
  obtain ⟨i0, hi, hz0, hz1, hz2⟩ := info_parts info_u8
  have hge := grownCap_ge w.drew n' bs.length 5
  have hfit : Builtin.nextslicecap n' bs.length * i0.bytes ≤ 281474976710656 := growslice_fits hc (by rw [hz2]; omega)
  have hlen : (bs.take n).length = n := by rw [List.length_take]; omega
  have hap := run_app_make (P := Try.prog) w.drew 24 3 24 5 i0 (.int .u8 0) .i64 .i64 Try.underlying24 Try.underlying3 hi hz0 ⟨rb, 0, none⟩ n bs.length (nums (bs.take n)) (by rw [nums_length, hlen, hz1, Nat.mul_one]) (by
      intro j v hv
      have hj : j < (bs.take n).length := by have := (List.getElem?_eq_some_iff.1 hv).1; rwa [nums_length] at this
      have hcell : w.cell? ⟨rb, j, none⟩ = (nums bs)[j]? := by rw [blk_cell hb, List.getElem?_toArray]
      rw [Addr.add_lit, Nat.zero_add]
      show w.cell? ⟨rb, j, none⟩ = some v
      rw [hcell, ← hv, nums, nums, List.map_take, List.getElem?_take, if_pos (by omega)])
    (n' - n) (by omega) (by omega) (by omega) (by omega) (by rw [show n + (n' - n) = n' by omega]; exact hfit) (by rw [hz2]; omega)
  rw [show n + (n' - n) = n' by omega] at hap
  refine ⟨bs.take n ++ List.replicate (n' - n) 0 ++ List.replicate (grownCap w.drew n' bs.length 5 - n') 0, ?_, ?_, ?_⟩
  · rw [hap]
    have e1 : (bs.take n ++ List.replicate (n' - n) 0 ++ List.replicate (grownCap w.drew n' bs.length 5 - n') 0).length = grownCap w.drew n' bs.length 5 := by
      simp only [List.length_append, hlen, List.length_replicate]; omega
    have e2 : (nums (bs.take n)).toArray ++ Builtin.zeroCells (Value.int .u8 0).cells (n' - n) ++ Builtin.zeroCells (Value.int .u8 0).cells (grownCap w.drew n' bs.length 5 - n') = (nums (bs.take n ++ List.replicate (n' - n) 0 ++ List.replicate (grownCap w.drew n' bs.length 5 - n') 0)).toArray := by
      rw [zeroCells_u8, zeroCells_u8]
      apply Array.ext'
      simp only [Array.toList_append, nums_append]
    rw [e1, e2]
    rfl
  · rw [List.append_assoc, List.take_append_of_le_length (by rw [hlen]; exact Nat.le_refl _), List.take_of_length_le (by rw [hlen]; exact Nat.le_refl _)]
  · simp only [List.length_append, hlen, List.length_replicate]; omega

set_option maxRecDepth 100000 in
set_option maxHeartbeats 2000000 in
theorem mgrow_grow (g rb : Nat) (L : Int) (id : List Int) (at_ : Value) (n n' : Nat) (bs : List Int) (w : World) (h : RawMsg w g rb L id at_ n bs) (hn : n < n') (hc : bs.length < n') (hsm : n' ≤ 100000) :
    Calls Try.prog 66 #[.pointer (some ⟨g, 0, none⟩), .int .i64 n'] w fun e w' => e = .returned (.tuple #[]) ∧ ∃ rb' bs', RawMsg w' g rb' L id at_ n' bs' ∧ bs'.take n = bs.take n ∧ w.heap.size ≤ rb' ∧ Kept [g] w w' := by
  have c16 := h.1.facts.2.2.2.2.1
  have f16 := h.1.free 16
  have t0 : decide ((n' : Int) ≤ n) = false := decide_eq_false (by omega)
  have t1 : decide ((n' : Int) ≤ bs.length) = false := decide_eq_false (by omega)
  have hsub : IntKind.i64.wrap ((n' : Int) - n) = ((n' - n : Nat) : Int) := by rw [IntKind.wrap_i64]; omega
  obtain ⟨bs', hap⟩ := run_app_make_u8 w rb n n' bs h.2.1 hn h.2.2.1 hc hsm
  have H := Lib.hid h
  have HAP := Lib.hid hap
  clear h hap
  go_enter Try.func66, Try.ntmps66
  go_upto_region 3 with fail
  refine wp_region_held_drew (S := fun w' => True) (by kernel_rfl) trivial (fun hHeld => ?_)
  refine wpAnyH_take (i := 0) (v := ?_) rfl (by kernel_rfl) (by kernel_rfl) (by kernel_rfl) (fun _ _ _ h => h) (Or.inl ⟨by rfl, ?_⟩) hHeld ?_
  rotate_left
  · (intro w' hSw; (try dsimp only at hSw); go_simp <;> with_reducible rfl)
  simp only [List.getElem_toArray, List.getElem_cons_succ, List.getElem_cons_zero, Act.put, List.setIfInBounds_toArray, List.set_cons_zero, List.set_cons_succ]
  refine wpAnyH_take (i := 1) (v := ?_) rfl (by kernel_rfl) (by kernel_rfl) (by kernel_rfl) (fun _ _ _ h => h) (Or.inl ⟨by rfl, ?_⟩) hHeld ?_
  rotate_left
  · (intro w' hSw; (try dsimp only at hSw); go_simp <;> with_reducible rfl)
  simp only [List.getElem_toArray, List.getElem_cons_succ, List.getElem_cons_zero, Act.put, List.setIfInBounds_toArray, List.set_cons_zero, List.set_cons_succ]
  refine wpAnyH_take (i := 2) (v := ?_) rfl (by kernel_rfl) (by kernel_rfl) (by kernel_rfl) (fun _ _ _ h => h) (Or.inl ⟨by rfl, ?_⟩) hHeld ?_
  rotate_left
  · (intro w' hSw; (try dsimp only at hSw); go_simp <;> with_reducible rfl)
  simp only [List.getElem_toArray, List.getElem_cons_succ, List.getElem_cons_zero, Act.put, List.setIfInBounds_toArray, List.set_cons_zero, List.set_cons_succ]
  refine wpAnyH_take (i := 3) (v := ?_) rfl (by kernel_rfl) (by kernel_rfl) (by kernel_rfl) (fun _ _ _ h => h) (Or.inl ⟨by rfl, ?_⟩) hHeld ?_
  rotate_left
  · (intro w' hSw; (try dsimp only at hSw); go_simp <;> with_reducible rfl)
  simp only [List.getElem_toArray, List.getElem_cons_succ, List.getElem_cons_zero, Act.put, List.setIfInBounds_toArray, List.set_cons_zero, List.set_cons_succ]
  refine wpAnyH_take (i := 5) (v := ?_) rfl (by kernel_rfl) (by kernel_rfl) (by kernel_rfl) (fun _ _ _ h => h) (Or.inl ⟨by rfl, ?_⟩) hHeld ?_
  rotate_left
  · (intro w' hSw; (try dsimp only at hSw); go_simp <;> with_reducible rfl)
  simp only [List.getElem_toArray, List.getElem_cons_succ, List.getElem_cons_zero, Act.put, List.setIfInBounds_toArray, List.set_cons_zero, List.set_cons_succ]
  refine wpAnyH_take (i := 6) (v := ?_) rfl (by kernel_rfl) (by kernel_rfl) (by kernel_rfl) (fun _ _ _ h => h) (Or.inl ⟨by rfl, ?_⟩) hHeld ?_
  rotate_left
  · (intro w' hSw; (try dsimp only at hSw); go_simp <;> with_reducible rfl)
  simp only [List.getElem_toArray, List.getElem_cons_succ, List.getElem_cons_zero, Act.put, List.setIfInBounds_toArray, List.set_cons_zero, List.set_cons_succ]
  refine wpAnyH_take (i := 7) (v := ?_) rfl (by kernel_rfl) (by kernel_rfl) (by kernel_rfl) (fun _ _ _ h => h) (Or.inl ⟨by rfl, ?_⟩) hHeld ?_
  rotate_left
  · (intro w' hSw; (try dsimp only at hSw); go_simp <;> with_reducible rfl)
  simp only [List.getElem_toArray, List.getElem_cons_succ, List.getElem_cons_zero, Act.put, List.setIfInBounds_toArray, List.set_cons_zero, List.set_cons_succ]
  refine wpAnyH_take (i := 8) (v := ?_) rfl (by kernel_rfl) (by kernel_rfl) (by kernel_rfl) (fun _ _ _ h => h) (Or.inl ⟨by rfl, ?_⟩) hHeld ?_
  rotate_left
  · (intro w' hSw; (try dsimp only at hSw); go_simp <;> with_reducible rfl)
  simp only [List.getElem_toArray, List.getElem_cons_succ, List.getElem_cons_zero, Act.put, List.setIfInBounds_toArray, List.set_cons_zero, List.set_cons_succ]
  refine wpAnyH_ready (rs := [4, 9]) (by kernel_rfl) (by simp) ?_
  refine AllReadyH.cons rfl (fun K hK => ?_) (AllReadyH.cons rfl (fun K hK => ?_) AllReadyH.nil)
  · go_simp
    refine hK.out _ _ trivial (fun hHeld => ?_)
    clear hK K
    refine wpAnyH_ready (rs := [9]) (by kernel_rfl) (by simp) ?_
    refine AllReadyH.cons rfl (fun K hK => ?_) AllReadyH.nil
    go_simp
    refine hK.out _ _ trivial (fun hHeld => ?_)
    clear hK K
    refine wpAnyH_take (i := 10) (v := ?_) rfl (by kernel_rfl) (by kernel_rfl) (by kernel_rfl) (fun _ _ _ h => h) (Or.inl ⟨by rfl, ?_⟩) hHeld ?_
    rotate_left
    · (intro w' hSw; (try dsimp only at hSw); go_simp <;> with_reducible rfl)
    simp only [List.getElem_toArray, List.getElem_cons_succ, List.getElem_cons_zero, Act.put, List.setIfInBounds_toArray, List.set_cons_zero, List.set_cons_succ]
    refine wpAnyH_take (i := 11) (v := ?_) rfl (by kernel_rfl) (by kernel_rfl) (by kernel_rfl) (fun _ _ _ h => h) (Or.inl ⟨by rfl, ?_⟩) hHeld ?_
    rotate_left
    · (intro w' hSw; (try dsimp only at hSw); go_simp <;> with_reducible rfl)
    simp only [List.getElem_toArray, List.getElem_cons_succ, List.getElem_cons_zero, Act.put, List.setIfInBounds_toArray, List.set_cons_zero, List.set_cons_succ]
    refine wpAnyH_ready (rs := [12]) (by kernel_rfl) (by simp) ?_
    refine AllReadyH.cons rfl (fun K hK => ?_) AllReadyH.nil
    rw [if_pos (by rfl)]
    refine Go.Lib.wp_append_run _ (.tmp 31) (.tmp 38) 24 3 rfl _ _ rfl rfl _ _ HAP.out.1 ?_
    simp only [Act.put, List.getElem_toArray, List.getElem_cons_succ, List.getElem_cons_zero, List.setIfInBounds_toArray, List.set_cons_zero, List.set_cons_succ]
    obtain ⟨W, hW⟩ : ∃ W, W = w.drew.drew.alloc (.cells (nums bs').toArray 5) := ⟨_, rfl⟩
    have hk : Kept [] w W := by rw [hW]; exact ((Kept.refl _ _).drew.drew).alloc _
    have hg := H.out.1.kept hk (by simp)
    have hb : W.heap[w.heap.size]? = some (.cells (nums bs').toArray 5 (0, 0)) := by rw [hW]; exact heap_at _ _ _ rfl
    have c16 := hg.facts.2.2.2.2.1
    have f16 := hg.free 16
    have HF := Lib.hid (And.intro hg (And.intro hb hk))
    rw [← hW]
    clear hW hg hb hk
    refine hK.out _ _ trivial (fun hHeld => ?_)
    clear hK K
    refine wpAnyH_take (i := 13) (v := ?_) rfl (by kernel_rfl) (by kernel_rfl) (by kernel_rfl) (fun _ _ _ h => h) (Or.inl ⟨by rfl, ?_⟩) hHeld ?_
    rotate_left
    · (intro w' hSw; (try dsimp only at hSw); go_simp <;> with_reducible rfl)
    simp only [List.getElem_toArray, List.getElem_cons_succ, List.getElem_cons_zero, Act.put, List.setIfInBounds_toArray, List.set_cons_zero, List.set_cons_succ]
    refine wpAnyH_take (i := 14) (v := ?_) rfl (by kernel_rfl) (by kernel_rfl) (by kernel_rfl) (fun _ _ _ h => h) (Or.inl ⟨by rfl, ?_⟩) hHeld ?_
    rotate_left
    · (intro w' hSw; (try dsimp only at hSw); go_simp <;> with_reducible rfl)
    simp only [List.getElem_toArray, List.getElem_cons_succ, List.getElem_cons_zero, Act.put, List.setIfInBounds_toArray, List.set_cons_zero, List.set_cons_succ]
    refine wpAnyH_ready (rs := [15]) (by kernel_rfl) (by simp) ?_
    refine AllReadyH.cons rfl (fun K hK => ?_) AllReadyH.nil
    go_simp
    refine hK.out _ _ trivial (fun hHeld => ?_)
    clear hK K
    refine wpAnyH_done (by kernel_rfl) ?_ _
    clear c16 f16
    go_wp2_with fail
    go_end0
    have hne : w.heap.size ≠ g := by have := H.out.1.lt; omega
    exact ⟨rfl, w.heap.size, bs', ⟨HF.out.1.set16 _, blk_far HF.out.2.1 hne _, HAP.out.2.2, hne⟩, HAP.out.2.1, Nat.le_refl _, (HF.out.2.2.mono (by simp)).setCell (.inl (by simp)) _⟩
  · go_simp
    refine hK.out _ _ trivial (fun hHeld => ?_)
    clear hK K
    refine wpAnyH_take (i := 10) (v := ?_) rfl (by kernel_rfl) (by kernel_rfl) (by kernel_rfl) (fun _ _ _ h => h) (Or.inl ⟨by rfl, ?_⟩) hHeld ?_
    rotate_left
    · (intro w' hSw; (try dsimp only at hSw); go_simp <;> with_reducible rfl)
    simp only [List.getElem_toArray, List.getElem_cons_succ, List.getElem_cons_zero, Act.put, List.setIfInBounds_toArray, List.set_cons_zero, List.set_cons_succ]
    refine wpAnyH_take (i := 11) (v := ?_) rfl (by kernel_rfl) (by kernel_rfl) (by kernel_rfl) (fun _ _ _ h => h) (Or.inl ⟨by rfl, ?_⟩) hHeld ?_
    rotate_left
    · (intro w' hSw; (try dsimp only at hSw); go_simp <;> with_reducible rfl)
    simp only [List.getElem_toArray, List.getElem_cons_succ, List.getElem_cons_zero, Act.put, List.setIfInBounds_toArray, List.set_cons_zero, List.set_cons_succ]
    refine wpAnyH_ready (rs := [4]) (by kernel_rfl) (by simp) ?_
    refine AllReadyH.cons rfl (fun K hK => ?_) AllReadyH.nil
    go_simp
    refine hK.out _ _ trivial (fun hHeld => ?_)
    clear hK K
    refine wpAnyH_ready (rs := [12]) (by kernel_rfl) (by simp) ?_
    refine AllReadyH.cons rfl (fun K hK => ?_) AllReadyH.nil
    rw [if_pos (by rfl)]
    refine Go.Lib.wp_append_run _ (.tmp 31) (.tmp 38) 24 3 rfl _ _ rfl rfl _ _ HAP.out.1 ?_
    simp only [Act.put, List.getElem_toArray, List.getElem_cons_succ, List.getElem_cons_zero, List.setIfInBounds_toArray, List.set_cons_zero, List.set_cons_succ]
    obtain ⟨W, hW⟩ : ∃ W, W = w.drew.drew.alloc (.cells (nums bs').toArray 5) := ⟨_, rfl⟩
    have hk : Kept [] w W := by rw [hW]; exact ((Kept.refl _ _).drew.drew).alloc _
    have hg := H.out.1.kept hk (by simp)
    have hb : W.heap[w.heap.size]? = some (.cells (nums bs').toArray 5 (0, 0)) := by rw [hW]; exact heap_at _ _ _ rfl
    have c16 := hg.facts.2.2.2.2.1
    have f16 := hg.free 16
    have HF := Lib.hid (And.intro hg (And.intro hb hk))
    rw [← hW]
    clear hW hg hb hk
    refine hK.out _ _ trivial (fun hHeld => ?_)
    clear hK K
    refine wpAnyH_take (i := 13) (v := ?_) rfl (by kernel_rfl) (by kernel_rfl) (by kernel_rfl) (fun _ _ _ h => h) (Or.inl ⟨by rfl, ?_⟩) hHeld ?_
    rotate_left
    · (intro w' hSw; (try dsimp only at hSw); go_simp <;> with_reducible rfl)
    simp only [List.getElem_toArray, List.getElem_cons_succ, List.getElem_cons_zero, Act.put, List.setIfInBounds_toArray, List.set_cons_zero, List.set_cons_succ]
    refine wpAnyH_take (i := 14) (v := ?_) rfl (by kernel_rfl) (by kernel_rfl) (by kernel_rfl) (fun _ _ _ h => h) (Or.inl ⟨by rfl, ?_⟩) hHeld ?_
    rotate_left
    · (intro w' hSw; (try dsimp only at hSw); go_simp <;> with_reducible rfl)
    simp only [List.getElem_toArray, List.getElem_cons_succ, List.getElem_cons_zero, Act.put, List.setIfInBounds_toArray, List.set_cons_zero, List.set_cons_succ]
    refine wpAnyH_ready (rs := [15]) (by kernel_rfl) (by simp) ?_
    refine AllReadyH.cons rfl (fun K hK => ?_) AllReadyH.nil
    go_simp
    refine hK.out _ _ trivial (fun hHeld => ?_)
    clear hK K
    refine wpAnyH_done (by kernel_rfl) ?_ _
    clear c16 f16
    go_wp2_with fail
    go_end0
    have hne : w.heap.size ≠ g := by have := H.out.1.lt; omega
    exact ⟨rfl, w.heap.size, bs', ⟨HF.out.1.set16 _, blk_far HF.out.2.1 hne _, HAP.out.2.2, hne⟩, HAP.out.2.1, Nat.le_refl _, (HF.out.2.2.mono (by simp)).setCell (.inl (by simp)) _⟩
end Go.Proofs.Ythgghgejndncnaa
