/- '(*Message).WriteType', 'WriteLength', 'WriteHeader' of a message under construction. -/
import Derived.Test.YthgghgejndncnaaGreatM4
import Derived.WalkSpells
import Derived.WalkLawsBesides
namespace Go.Proofs.YthgghgejndncnaaGreat
open Go.RowKit
set_option linter.unusedSimpArgs false
set_option linter.unusedVariables false

section
variable {w : World} {g rb n : Nat} {L : Int} {id bs : List Int} {at_ : Value}
theorem MsgBlk.far {M C : Int} {rw_ : Value} (h : MsgBlk w g M C L id at_ rw_) {p : Addr} (hp : g ≠ p.block) (u : Value) : MsgBlk (w.setCell p u) g M C L id at_ rw_ := ⟨h.1, blk_far h.2 hp u⟩
theorem RawMsg.raw (h : RawMsg w g rb L id at_ n bs) : w.cell? ⟨g, 16, none⟩ = some (.slice (some ⟨rb, 0, none⟩) n bs.length) := h.1.facts.2.2.2.2.1
theorem RawMsg.cell (h : RawMsg w g rb L id at_ n bs) (i : Nat) (hi : i < bs.length) : w.cell? ⟨rb, i, none⟩ = some (.int .u8 (bs.getD i 0)) := by
  rw [blk_cell h.2.1, List.getElem?_toArray]
  exact nums_get hi
theorem RawMsg.free (h : RawMsg w g rb L id at_ n bs) (i : Nat) : w.frozen? ⟨rb, i, none⟩ = false := blk_free h.2.1 i
theorem RawMsg.put (h : RawMsg w g rb L id at_ n bs) (i : Nat) (x : Int) : RawMsg (w.setCell ⟨rb, i, none⟩ (.int .u8 x)) g rb L id at_ n (bs.set i x) := by
  refine ⟨?_, ?_, by rw [List.length_set]; exact h.2.2.1, h.2.2.2⟩
  · rw [List.length_set]; exact h.1.far (fun e => h.2.2.2 e.symm) _
  · rw [← nums_set]; exact blk_set h.2.1 i _
theorem RawMsg.kept {w' : World} {S : List Nat} (h : RawMsg w g rb L id at_ n bs) (k : Kept S w w') (hg : g ∉ S) (hr : rb ∉ S) : RawMsg w' g rb L id at_ n bs := ⟨h.1.kept k hg, blk_kept h.2.1 k hr, h.2.2⟩
theorem RawMsg.below {w' : World} (h : RawMsg w g rb L id at_ n bs) (k : Below w.heap.size w w') : RawMsg w' g rb L id at_ n bs := h.kept (Kept.of_below (S := []) k) (by simp) (by simp)
theorem RawMsg.drew (h : RawMsg w g rb L id at_ n bs) : RawMsg w.drew g rb L id at_ n bs := h
theorem RawMsg.lt (h : RawMsg w g rb L id at_ n bs) : g < w.heap.size ∧ rb < w.heap.size := ⟨h.1.lt, blk_lt h.2.1⟩
end

theorem mgrow_lit (g rb : Nat) (L : Int) (id : List Int) (at_ : Value) (n : Nat) (bs : List Int) (w : World) (h : RawMsg w g rb L id at_ n bs) (m : Int) (k : Nat) (hm : (k : Int) = m) (hn : k ≤ n) :
    Calls Tryz.prog 27 #[.pointer (some ⟨g, 0, none⟩), .int .i64 m] w fun e w' => e = .returned (.tuple #[]) ∧ w = w' := by
  subst hm
  exact (mgrow_no g rb L id at_ n k bs w h hn).mono fun _ _ ⟨he, hw⟩ => ⟨he, hw.symm⟩

theorem sput16_raw (g rb : Nat) (L : Int) (id : List Int) (at_ : Value) (n : Nat) (bs : List Int) (w : World) (h : RawMsg w g rb L id at_ n bs) (o k c : Nat) (v : Int) (hk : 2 ≤ k) (ho : o + 1 < bs.length) (hv : 0 ≤ v ∧ v ≤ 65535) :
    Calls Tryz.prog 49 #[.slice (some ⟨rb, o, none⟩) k c, .int .u16 v] w fun e w' => e = .returned (.tuple #[]) ∧ RawMsg w' g rb L id at_ n ((bs.set o (v / 256)).set (o + 1) (v % 256)) ∧ Kept [rb] w w' := by
  refine (sput16_any rb o k c v _ _ w hk hv (h.cell o (by omega)) (h.cell (o + 1) ho) (h.free _) (h.free _)).mono ?_
  rintro e w' ⟨rfl, rfl⟩
  exact ⟨rfl, (h.put _ _).put _ _, ((Kept.refl _ _).setCell (.inl (by simp)) _).setCell (.inl (by simp)) _⟩

theorem sput32_raw (g rb : Nat) (L : Int) (id : List Int) (at_ : Value) (n : Nat) (bs : List Int) (w : World) (h : RawMsg w g rb L id at_ n bs) (o k c : Nat) (v : Int) (hk : 4 ≤ k) (ho : o + 3 < bs.length) (hv : 0 ≤ v ∧ v ≤ 4294967295) :
    Calls Tryz.prog 30 #[.slice (some ⟨rb, o, none⟩) k c, .int .u32 v] w fun e w' => e = .returned (.tuple #[]) ∧ RawMsg w' g rb L id at_ n ((((bs.set o (v / 16777216)).set (o + 1) (v / 65536 % 256)).set (o + 2) (v / 256 % 256)).set (o + 3) (v % 256)) ∧ Kept [rb] w w' := by
  refine (sput32_any rb o k c v _ _ _ _ w hk hv (h.cell o (by omega)) (h.cell (o + 1) (by omega)) (h.cell (o + 2) (by omega)) (h.cell (o + 3) ho) (h.free _) (h.free _) (h.free _) (h.free _)).mono ?_
  rintro e w' ⟨rfl, rfl⟩
  exact ⟨rfl, (((h.put _ _).put _ _).put _ _).put _ _, ((((Kept.refl _ _).setCell (.inl (by simp)) _).setCell (.inl (by simp)) _).setCell (.inl (by simp)) _).setCell (.inl (by simp)) _⟩

set_option maxHeartbeats 1000000 in
/-- '(MessageType).Value' of the type 0 -/
theorem mtValue_any (w : World) :
    Calls Tryz.prog 50 #[.agg #[.int .u16 0, .int .u8 0]] w fun e w' => e = .returned (.int .u16 0) ∧ Below w.heap.size w w' := by
  go_enter Tryz.func50, Tryz.ntmps50
  go_wp2
  go_ret
  exact ⟨by rfl, below_alloc _ _⟩

set_option maxRecDepth 100000 in
set_option maxHeartbeats 2000000 in
theorem mWT_any (g rb : Nat) (L : Int) (id : List Int) (at_ : Value) (n : Nat) (bs : List Int) (w : World) (h : RawMsg w g rb L id at_ n bs) (hn : 20 ≤ n) :
    Calls Tryz.prog 28 #[.pointer (some ⟨g, 0, none⟩)] w fun e w' => e = .returned (.tuple #[]) ∧ RawMsg w' g rb L id at_ n ((bs.set 0 0).set 1 0) ∧ Kept [rb] w w' := by
  have hc : 20 ≤ bs.length := by have := h.2.2.1; omega
  have H := Lib.hid h
  clear h
  go_enter Tryz.func28, Tryz.ntmps28
  go_upto_region 1 with (go_at_call 27; refine (mgrow_lit g rb L id at_ n bs _ H.out 2 2 rfl (by omega)).mono ?_; rintro e w' ⟨rfl, rfl⟩)
  have hfx := H.out.1.facts
  have hraw := hfx.2.2.2.2.1
  have l2 : (2 : Int) ≤ bs.length := by omega
  have HC := Lib.hid (show 1 < bs.length by omega)
  generalize hcc : bs.length = c at hraw l2
  refine wp_region_held_drew (S := fun w' => w'.cell? ⟨g, 16, none⟩ = some (.slice (some ⟨rb, 0, none⟩) n c) ∧ w'.cell? ⟨g, 0, none⟩ = some (.int .u16 0) ∧ w'.cell? ⟨g, 1, none⟩ = some (.int .u8 0)) (by kernel_rfl) ⟨hraw, hfx.1, hfx.2.1⟩ (fun hHeld => ?_)
  clear hfx hraw hcc
  refine wpAnyH_take (i := 0) (v := ?_) rfl (by kernel_rfl) (by kernel_rfl) (by kernel_rfl) (fun _ _ _ h => h) (Or.inl ⟨by rfl, ?_⟩) hHeld ?_
  rotate_left
  · (intro w' hSw; (try dsimp only at hSw); go_simp <;> with_reducible rfl)
  simp only [List.getElem_toArray, List.getElem_cons_succ, List.getElem_cons_zero, Act.put, List.setIfInBounds_toArray, List.set_cons_zero, List.set_cons_succ]
  refine wpAnyH_take (i := 1) (v := ?_) rfl (by kernel_rfl) (by kernel_rfl) (by kernel_rfl) (fun _ _ _ h => h) (Or.inl ⟨by rfl, ?_⟩) hHeld ?_
  rotate_left
  · (intro w' hSw; (try dsimp only at hSw); go_simp <;> with_reducible rfl)
  simp only [List.getElem_toArray, List.getElem_cons_succ, List.getElem_cons_zero, Act.put, List.setIfInBounds_toArray, List.set_cons_zero, List.set_cons_succ]
  refine wpAnyH_take (i := 2) (v := ?_) rfl (by kernel_rfl) (by kernel_rfl) (by kernel_rfl) (fun _ _ _ h => h) (Or.inl ⟨by rfl, ?_⟩) hHeld ?_
  rotate_left
  · (intro w' hSw; (try dsimp only at hSw); go_simp <;> with_reducible rfl)
  simp only [List.getElem_toArray, List.getElem_cons_succ, List.getElem_cons_zero, Act.put, List.setIfInBounds_toArray, List.set_cons_zero, List.set_cons_succ]
  refine wpAnyH_take (i := 3) (v := ?_) rfl (by kernel_rfl) (by kernel_rfl) (by kernel_rfl) (fun _ _ _ h => h) (Or.inl ⟨by rfl, ?_⟩) hHeld ?_
  rotate_left
  · (intro w' hSw; (try dsimp only at hSw); go_simp <;> with_reducible rfl)
  simp only [List.getElem_toArray, List.getElem_cons_succ, List.getElem_cons_zero, Act.put, List.setIfInBounds_toArray, List.set_cons_zero, List.set_cons_succ]
  refine wpAnyH_take (i := 4) (v := ?_) rfl (by kernel_rfl) (by kernel_rfl) (by kernel_rfl) (fun _ _ _ h => h) (Or.inl ⟨by rfl, ?_⟩) hHeld ?_
  rotate_left
  · (intro w' hSw; (try dsimp only at hSw); go_simp <;> with_reducible rfl)
  simp only [List.getElem_toArray, List.getElem_cons_succ, List.getElem_cons_zero, Act.put, List.setIfInBounds_toArray, List.set_cons_zero, List.set_cons_succ]
  refine wpAnyH_take (i := 5) (v := ?_) rfl (by kernel_rfl) (by kernel_rfl) (by kernel_rfl) (fun _ _ _ h => h) (Or.inl ⟨by rfl, ?_⟩) hHeld ?_
  rotate_left
  · (intro w' hSw; (try dsimp only at hSw); go_simp <;> with_reducible rfl)
  simp only [List.getElem_toArray, List.getElem_cons_succ, List.getElem_cons_zero, Act.put, List.setIfInBounds_toArray, List.set_cons_zero, List.set_cons_succ]
  refine wpAnyH_take (i := 6) (v := ?_) rfl (by kernel_rfl) (by kernel_rfl) (by kernel_rfl) (fun _ _ _ h => h) (Or.inl ⟨by rfl, ?_⟩) hHeld ?_
  rotate_left
  · (intro w' hSw; (try dsimp only at hSw); go_simp <;> with_reducible rfl)
  simp only [List.getElem_toArray, List.getElem_cons_succ, List.getElem_cons_zero, Act.put, List.setIfInBounds_toArray, List.set_cons_zero, List.set_cons_succ]
  refine wpAnyH_take (i := 7) (v := ?_) rfl (by kernel_rfl) (by kernel_rfl) (by kernel_rfl) (fun _ _ _ h => h) (Or.inl ⟨by rfl, ?_⟩) hHeld ?_
  rotate_left
  · (intro w' hSw; (try dsimp only at hSw); go_simp <;> with_reducible rfl)
  simp only [List.getElem_toArray, List.getElem_cons_succ, List.getElem_cons_zero, Act.put, List.setIfInBounds_toArray, List.set_cons_zero, List.set_cons_succ]
  refine wpAnyH_take (i := 8) (v := ?_) rfl (by kernel_rfl) (by kernel_rfl) (by kernel_rfl) (fun _ _ _ h => h) (Or.inl ⟨by rfl, ?_⟩) hHeld ?_
  rotate_left
  · (intro w' hSw; (try dsimp only at hSw); go_simp <;> with_reducible rfl)
  simp only [List.getElem_toArray, List.getElem_cons_succ, List.getElem_cons_zero, Act.put, List.setIfInBounds_toArray, List.set_cons_zero, List.set_cons_succ]
  refine wpAnyH_ready (rs := [9]) (by kernel_rfl) (by simp) ?_
  refine AllReadyH.cons rfl (fun K hK => ?_) AllReadyH.nil
  go_simp
  go_at_call 50
  refine (mtValue_any _).mono ?_
  rintro e w1 ⟨rfl, hB1⟩
  have hB : Below w.heap.size w w1 := below_drew hB1
  have h1 := H.out.below hB
  have hfx := h1.1.facts
  have H1 := Lib.hid (And.intro h1 hB)
  refine hK.out _ _ ⟨(Kept.of_below (S := []) hB).cell hHeld.1 (by simp), hfx.1, hfx.2.1⟩ (fun hHeld => ?_)
  clear hK K hB1 hB h1 hfx
  refine wpAnyH_ready (rs := [10]) (by kernel_rfl) (by simp) ?_
  refine AllReadyH.cons rfl (fun K hK => ?_) AllReadyH.nil
  go_simp
  go_at_call 49
  refine (sput16_raw g rb L id at_ n bs _ H1.out.1 0 2 c 0 (by omega) HC.out (by omega)).mono ?_
  rintro e w2 ⟨rfl, h2, hk2⟩
  have HF := Lib.hid (And.intro h2 ((Kept.of_below (S := [rb]) H1.out.2).trans hk2 (by simp)))
  have hfx := h2.1.facts
  refine hK.out _ _ ⟨hk2.cell hHeld.1 (by simpa using fun e => H1.out.1.2.2.2 e.symm), hfx.1, hfx.2.1⟩ (fun hHeld => ?_)
  clear h2 hk2 hfx
  clear hK K
  refine wpAnyH_done (by kernel_rfl) ?_ _
  go_wp2_with fail
  go_end0
  exact ⟨rfl, HF.out.1, HF.out.2⟩

set_option maxRecDepth 100000 in
set_option maxHeartbeats 2000000 in
theorem mWL_any (g rb : Nat) (L : Int) (id : List Int) (at_ : Value) (n : Nat) (bs : List Int) (w : World) (h : RawMsg w g rb L id at_ n bs) (hn : 20 ≤ n) (hL : 0 ≤ L ∧ L ≤ 65535) :
    Calls Tryz.prog 29 #[.pointer (some ⟨g, 0, none⟩)] w fun e w' => e = .returned (.tuple #[]) ∧ RawMsg w' g rb L id at_ n ((bs.set 2 (L / 256)).set 3 (L % 256)) ∧ Kept [rb] w w' := by
  have hc : 20 ≤ bs.length := by have := h.2.2.1; omega
  have hwr : IntKind.u16.wrap L = L := wraps_u16 _ (by omega) (by omega)
  have H := Lib.hid h
  clear h
  go_enter Tryz.func29, Tryz.ntmps29
  go_upto_region 1 with (go_at_call 27; refine (mgrow_lit g rb L id at_ n bs _ H.out 4 4 rfl (by omega)).mono ?_; rintro e w' ⟨rfl, rfl⟩)
  have hfx := H.out.1.facts
  have hraw := hfx.2.2.2.2.1
  have l2 : (4 : Int) ≤ bs.length := by omega
  have l3 : ¬ bs.length = 2 := by omega
  have HC := Lib.hid (show 3 < bs.length by omega)
  generalize hcc : bs.length = c at hraw l2 l3
  refine wp_region_held_drew (S := fun w' => w'.cell? ⟨g, 16, none⟩ = some (.slice (some ⟨rb, 0, none⟩) n c) ∧ w'.cell? ⟨g, 2, none⟩ = some (.int .u32 L)) (by kernel_rfl) ⟨hraw, hfx.2.2.1⟩ (fun hHeld => ?_)
  clear hfx hraw hcc
  refine wpAnyH_take (i := 0) (v := ?_) rfl (by kernel_rfl) (by kernel_rfl) (by kernel_rfl) (fun _ _ _ h => h) (Or.inl ⟨by rfl, ?_⟩) hHeld ?_
  rotate_left
  · (intro w' hSw; (try dsimp only at hSw); go_simp <;> with_reducible rfl)
  simp only [List.getElem_toArray, List.getElem_cons_succ, List.getElem_cons_zero, Act.put, List.setIfInBounds_toArray, List.set_cons_zero, List.set_cons_succ]
  refine wpAnyH_take (i := 1) (v := ?_) rfl (by kernel_rfl) (by kernel_rfl) (by kernel_rfl) (fun _ _ _ h => h) (Or.inl ⟨by rfl, ?_⟩) hHeld ?_
  rotate_left
  · (intro w' hSw; (try dsimp only at hSw); go_simp <;> with_reducible rfl)
  simp only [List.getElem_toArray, List.getElem_cons_succ, List.getElem_cons_zero, Act.put, List.setIfInBounds_toArray, List.set_cons_zero, List.set_cons_succ]
  refine wpAnyH_take (i := 2) (v := ?_) rfl (by kernel_rfl) (by kernel_rfl) (by kernel_rfl) (fun _ _ _ h => h) (Or.inl ⟨by rfl, ?_⟩) hHeld ?_
  rotate_left
  · (intro w' hSw; (try dsimp only at hSw); go_simp <;> with_reducible rfl)
  simp only [List.getElem_toArray, List.getElem_cons_succ, List.getElem_cons_zero, Act.put, List.setIfInBounds_toArray, List.set_cons_zero, List.set_cons_succ]
  refine wpAnyH_take (i := 3) (v := ?_) rfl (by kernel_rfl) (by kernel_rfl) (by kernel_rfl) (fun _ _ _ h => h) (Or.inl ⟨by rfl, ?_⟩) hHeld ?_
  rotate_left
  · (intro w' hSw; (try dsimp only at hSw); go_simp <;> with_reducible rfl)
  simp only [List.getElem_toArray, List.getElem_cons_succ, List.getElem_cons_zero, Act.put, List.setIfInBounds_toArray, List.set_cons_zero, List.set_cons_succ]
  refine wpAnyH_take (i := 4) (v := ?_) rfl (by kernel_rfl) (by kernel_rfl) (by kernel_rfl) (fun _ _ _ h => h) (Or.inl ⟨by rfl, ?_⟩) hHeld ?_
  rotate_left
  · (intro w' hSw; (try dsimp only at hSw); go_simp <;> with_reducible rfl)
  simp only [List.getElem_toArray, List.getElem_cons_succ, List.getElem_cons_zero, Act.put, List.setIfInBounds_toArray, List.set_cons_zero, List.set_cons_succ]
  refine wpAnyH_take (i := 5) (v := ?_) rfl (by kernel_rfl) (by kernel_rfl) (by kernel_rfl) (fun _ _ _ h => h) (Or.inl ⟨by rfl, ?_⟩) hHeld ?_
  rotate_left
  · (intro w' hSw; (try dsimp only at hSw); go_simp <;> with_reducible rfl)
  simp only [List.getElem_toArray, List.getElem_cons_succ, List.getElem_cons_zero, Act.put, List.setIfInBounds_toArray, List.set_cons_zero, List.set_cons_succ]
  refine wpAnyH_take (i := 6) (v := ?_) rfl (by kernel_rfl) (by kernel_rfl) (by kernel_rfl) (fun _ _ _ h => h) (Or.inl ⟨by rfl, ?_⟩) hHeld ?_
  rotate_left
  · (intro w' hSw; (try dsimp only at hSw); go_simp <;> with_reducible rfl)
  simp only [List.getElem_toArray, List.getElem_cons_succ, List.getElem_cons_zero, Act.put, List.setIfInBounds_toArray, List.set_cons_zero, List.set_cons_succ]
  refine wpAnyH_take (i := 7) (v := ?_) rfl (by kernel_rfl) (by kernel_rfl) (by kernel_rfl) (fun _ _ _ h => h) (Or.inl ⟨by rfl, ?_⟩) hHeld ?_
  rotate_left
  · (intro w' hSw; (try dsimp only at hSw); go_simp <;> with_reducible rfl)
  simp only [List.getElem_toArray, List.getElem_cons_succ, List.getElem_cons_zero, Act.put, List.setIfInBounds_toArray, List.set_cons_zero, List.set_cons_succ]
  refine wpAnyH_take (i := 8) (v := ?_) rfl (by kernel_rfl) (by kernel_rfl) (by kernel_rfl) (fun _ _ _ h => h) (Or.inl ⟨by rfl, ?_⟩) hHeld ?_
  rotate_left
  · (intro w' hSw; (try dsimp only at hSw); go_simp <;> with_reducible rfl)
  simp only [List.getElem_toArray, List.getElem_cons_succ, List.getElem_cons_zero, Act.put, List.setIfInBounds_toArray, List.set_cons_zero, List.set_cons_succ]
  refine wpAnyH_take (i := 9) (v := ?_) rfl (by kernel_rfl) (by kernel_rfl) (by kernel_rfl) (fun _ _ _ h => h) (Or.inl ⟨by rfl, ?_⟩) hHeld ?_
  rotate_left
  · (intro w' hSw; (try dsimp only at hSw); go_simp <;> with_reducible rfl)
  simp only [List.getElem_toArray, List.getElem_cons_succ, List.getElem_cons_zero, Act.put, List.setIfInBounds_toArray, List.set_cons_zero, List.set_cons_succ]
  refine wpAnyH_ready (rs := [10]) (by kernel_rfl) (by simp) ?_
  refine AllReadyH.cons rfl (fun K hK => ?_) AllReadyH.nil
  go_simp
  go_at_call 49
  refine (sput16_raw g rb L id at_ n bs _ H.out.drew 2 2 (c - 2) L (by omega) HC.out hL).mono ?_
  rintro e w2 ⟨rfl, h2, hk2⟩
  have HF := Lib.hid (And.intro h2 (show Kept [rb] w w2 from ((Kept.refl [rb] w).drew).trans hk2 (by simp)))
  have hfx := h2.1.facts
  refine hK.out _ _ ⟨hk2.cell hHeld.1 (by simpa using fun e => H.out.2.2.2 e.symm), hfx.2.2.1⟩ (fun hHeld => ?_)
  clear h2 hk2 hfx
  clear hK K
  refine wpAnyH_done (by kernel_rfl) ?_ _
  go_wp2_with fail
  go_end0
  exact ⟨rfl, HF.out.1, HF.out.2⟩

/-- a message's header -/
def hdrB (L : Int) (id : List Int) : List Int := [0, 0, L / 256, L % 256, 33, 18, 164, 66] ++ id
theorem hdrB_length (L : Int) (id : List Int) (h : id.length = 12) : (hdrB L id).length = 20 := by simp [hdrB, h]
theorem list8 (bs : List Int) (h : 8 ≤ bs.length) : ∃ a b c d e f g i r, bs = a :: b :: c :: d :: e :: f :: g :: i :: r := by
  match bs, h with
  | a :: b :: c :: d :: e :: f :: g :: i :: r, _ => exact ⟨a, b, c, d, e, f, g, i, r, rfl⟩
/-- what the header's writing makes of the bytes -/
theorem hdr_set (bs : List Int) (L : Int) (id : List Int) (h : 20 ≤ bs.length) (hid : id.length = 12) :
    (((((((((bs.set 0 0).set 1 0).set 2 (L / 256)).set 3 (L % 256)).set 4 33).set (4 + 1) 18).set (4 + 2) 164).set (4 + 3) 66)).take 8 ++ id ++ (((((((((bs.set 0 0).set 1 0).set 2 (L / 256)).set 3 (L % 256)).set 4 33).set (4 + 1) 18).set (4 + 2) 164).set (4 + 3) 66)).drop (8 + id.length) = hdrB L id ++ bs.drop 20 := by
  obtain ⟨x0, x1, x2, x3, x4, x5, x6, x7, r, rfl⟩ := list8 bs (by omega)
  rw [hid]
  rfl
theorem setRow_nums {w : World} {rb : Nat} {bs cs : List Int} {T : TypeId} {fr : Nat × Nat} (h : w.heap[rb]? = some (.cells (nums bs).toArray T fr)) (off : Nat) :
    (w.setRow rb ((nums bs).toArray.toList.take off ++ (nums cs ++ (nums bs).toArray.toList.drop (off + (nums cs).length))).toArray).heap[rb]? = some (.cells (nums (bs.take off ++ cs ++ bs.drop (off + cs.length))).toArray T fr) := by
  rw [setRow_heap w rb _ _ _ _ h]
  simp [nums, List.map_take, List.map_drop]

set_option maxRecDepth 100000 in
set_option maxHeartbeats 2000000 in
theorem mWH_any (g rb : Nat) (L : Int) (id : List Int) (at_ : Value) (n : Nat) (bs : List Int) (w : World) (h : RawMsg w g rb L id at_ n bs) (hn : 20 ≤ n) (hL : 0 ≤ L ∧ L ≤ 65535) :
    Calls Tryz.prog 17 #[.pointer (some ⟨g, 0, none⟩)] w fun e w' => e = .returned (.tuple #[]) ∧ RawMsg w' g rb L id at_ n (hdrB L id ++ bs.drop 20) ∧ Kept [rb] w w' := by
  have hc : 20 ≤ bs.length := by have := h.2.2.1; omega
  have hraw := h.raw
  have hne : g ≠ rb := fun e => h.2.2.2 e.symm
  have hid := h.1.1
  have l20 : (20 : Int) ≤ bs.length := by omega
  have l8 : (8 : Int) ≤ bs.length := by omega
  have l4 : ¬ bs.length = 4 := by omega
  have l8' : ¬ bs.length = 8 := by omega
  have H := Lib.hid h
  have HI := Lib.hid hid
  have HC := Lib.hid hc
  clear h hid hc
  generalize hcc : bs.length = c at hraw l20 l8 l4 l8'
  have HCC := Lib.hid hcc
  clear hcc
  go_enter Tryz.func17, Tryz.ntmps17
  go_upto_region 2 with (go_at_call 27; refine (mgrow_lit g rb L id at_ n bs _ H.out 20 20 rfl (by omega)).mono ?_; rintro e w' ⟨rfl, rfl⟩)
  go_wp2_with fail
  refine (mWT_any g rb L id at_ n bs _ H.out hn).mono ?_
  rintro e w1 ⟨rfl, h1, hk1⟩
  have H1 := Lib.hid (And.intro h1 hk1)
  clear h1 hk1 hraw
  go_wp2_with fail
  refine (mWL_any g rb L id at_ n _ _ H1.out.1 hn hL).mono ?_
  rintro e w2 ⟨rfl, h2, hk2⟩
  have hraw : w2.cell? ⟨g, 16, none⟩ = some (.slice (some ⟨rb, 0, none⟩) n c) := by
    have := h2.raw
    simpa only [List.length_set, HCC.out] using this
  have H2 := Lib.hid (And.intro h2 (H1.out.2.trans hk2 (by simp)))
  clear h2 hk2
  go_upto_region 5 with (go_at_call 30; refine (sput32_raw g rb L id at_ n _ _ H2.out.1 4 4 (c - 4) 554869826 (by omega) (by have := HC.out; simp only [List.length_set]; omega) (by omega)).mono ?_; rintro e w3 ⟨rfl, h3, hk3⟩; have H3 := Lib.hid (And.intro h3 (H2.out.2.trans hk3 (by simp))); clear h3 hk3)
  clear hraw
  have h3 := H3.out.1
  generalize hb3 : ((((((((bs.set 0 0).set 1 0).set 2 (L / 256)).set 3 (L % 256)).set 4 (554869826 / 16777216)).set (4 + 1) (554869826 / 65536 % 256)).set (4 + 2) (554869826 / 256 % 256)).set (4 + 3) (554869826 % 256)) = b3 at h3
  have hl3 : b3.length = c := by rw [← hb3]; simp only [List.length_set]; exact HCC.out
  have hbf : b3.take 8 ++ id ++ b3.drop (8 + id.length) = hdrB L id ++ bs.drop 20 := by
    rw [← hb3]
    exact hdr_set bs L id HC.out HI.out
  have hraw := h3.raw
  rw [hl3] at hraw
  have HQ := Lib.hid (And.intro h3 (And.intro hl3 hbf))
  clear h3 hl3 hbf hb3
  refine wp_region_held_drew (S := fun w' => w'.cell? ⟨g, 16, none⟩ = some (.slice (some ⟨rb, 0, none⟩) n c)) (by kernel_rfl) hraw (fun hHeld => ?_)
  clear hraw
  refine wpAnyH_take (i := 0) (v := ?_) rfl (by kernel_rfl) (by kernel_rfl) (by kernel_rfl) (fun _ _ _ h => h) (Or.inl ⟨by rfl, ?_⟩) hHeld ?_
  rotate_left
  · (intro w' hSw; (try dsimp only at hSw); go_simp <;> with_reducible rfl)
  simp only [List.getElem_toArray, List.getElem_cons_succ, List.getElem_cons_zero, Act.put, List.setIfInBounds_toArray, List.set_cons_zero, List.set_cons_succ]
  refine wpAnyH_take (i := 1) (v := ?_) rfl (by kernel_rfl) (by kernel_rfl) (by kernel_rfl) (fun _ _ _ h => h) (Or.inl ⟨by rfl, ?_⟩) hHeld ?_
  rotate_left
  · (intro w' hSw; (try dsimp only at hSw); go_simp <;> with_reducible rfl)
  simp only [List.getElem_toArray, List.getElem_cons_succ, List.getElem_cons_zero, Act.put, List.setIfInBounds_toArray, List.set_cons_zero, List.set_cons_succ]
  refine wpAnyH_take (i := 2) (v := ?_) rfl (by kernel_rfl) (by kernel_rfl) (by kernel_rfl) (fun _ _ _ h => h) (Or.inl ⟨by rfl, ?_⟩) hHeld ?_
  rotate_left
  · (intro w' hSw; (try dsimp only at hSw); go_simp <;> with_reducible rfl)
  simp only [List.getElem_toArray, List.getElem_cons_succ, List.getElem_cons_zero, Act.put, List.setIfInBounds_toArray, List.set_cons_zero, List.set_cons_succ]
  refine wpAnyH_take (i := 3) (v := ?_) rfl (by kernel_rfl) (by kernel_rfl) (by kernel_rfl) (fun _ _ _ h => h) (Or.inl ⟨by rfl, ?_⟩) hHeld ?_
  rotate_left
  · (intro w' hSw; (try dsimp only at hSw); go_simp <;> with_reducible rfl)
  simp only [List.getElem_toArray, List.getElem_cons_succ, List.getElem_cons_zero, Act.put, List.setIfInBounds_toArray, List.set_cons_zero, List.set_cons_succ]
  refine wpAnyH_take (i := 4) (v := ?_) rfl (by kernel_rfl) (by kernel_rfl) (by kernel_rfl) (fun _ _ _ h => h) (Or.inl ⟨by rfl, ?_⟩) hHeld ?_
  rotate_left
  · (intro w' hSw; (try dsimp only at hSw); go_simp <;> with_reducible rfl)
  simp only [List.getElem_toArray, List.getElem_cons_succ, List.getElem_cons_zero, Act.put, List.setIfInBounds_toArray, List.set_cons_zero, List.set_cons_succ]
  refine wpAnyH_take (i := 5) (v := ?_) rfl (by kernel_rfl) (by kernel_rfl) (by kernel_rfl) (fun _ _ _ h => h) (Or.inl ⟨by rfl, ?_⟩) hHeld ?_
  rotate_left
  · (intro w' hSw; (try dsimp only at hSw); go_simp <;> with_reducible rfl)
  simp only [List.getElem_toArray, List.getElem_cons_succ, List.getElem_cons_zero, Act.put, List.setIfInBounds_toArray, List.set_cons_zero, List.set_cons_succ]
  refine wpAnyH_take (i := 6) (v := ?_) rfl (by kernel_rfl) (by kernel_rfl) (by kernel_rfl) (fun _ _ _ h => h) (Or.inl ⟨by rfl, ?_⟩) hHeld ?_
  rotate_left
  · (intro w' hSw; (try dsimp only at hSw); go_simp <;> with_reducible rfl)
  simp only [List.getElem_toArray, List.getElem_cons_succ, List.getElem_cons_zero, Act.put, List.setIfInBounds_toArray, List.set_cons_zero, List.set_cons_succ]
  refine wpAnyH_take (i := 7) (v := ?_) rfl (by kernel_rfl) (by kernel_rfl) (by kernel_rfl) (fun _ _ _ h => h) (Or.inl ⟨by rfl, ?_⟩) hHeld ?_
  rotate_left
  · (intro w' hSw; (try dsimp only at hSw); go_simp <;> with_reducible rfl)
  simp only [List.getElem_toArray, List.getElem_cons_succ, List.getElem_cons_zero, Act.put, List.setIfInBounds_toArray, List.set_cons_zero, List.set_cons_succ]
  refine wpAnyH_take (i := 8) (v := ?_) rfl (by kernel_rfl) (by kernel_rfl) (by kernel_rfl) (fun _ _ _ h => h) (Or.inl ⟨by rfl, ?_⟩) hHeld ?_
  rotate_left
  · (intro w' hSw; (try dsimp only at hSw); go_simp <;> with_reducible rfl)
  simp only [List.getElem_toArray, List.getElem_cons_succ, List.getElem_cons_zero, Act.put, List.setIfInBounds_toArray, List.set_cons_zero, List.set_cons_succ]
  refine wpAnyH_ready (rs := [9]) (by kernel_rfl) (by simp) ?_
  refine AllReadyH.cons rfl (fun K hK => ?_) AllReadyH.nil
  refine step_copy_own 28 rfl rfl (.tmp 23) (.tmp 27) 24 24 rfl 5 Tryz.underlying24 (by kernel_rfl) rb 8 12 (c - 8) ⟨g, 3, none⟩ 12 12 rfl rfl (nums b3).toArray 5 ?_ (nums id) ?_ ?_ ?_ (nums_one id) ?_
  · exact HQ.out.1.2.1
  · rw [nums_length, HI.out]; rfl
  · exact rd_src HQ.out.1.1.rd
  · have := HC.out; have := HCC.out; have := HQ.out.2.1; simp only [nums_length, HI.out, List.size_toArray]; omega
  simp only [Act.put, List.setIfInBounds_toArray, List.set_cons_zero, List.set_cons_succ]
  obtain ⟨W, hW⟩ : ∃ W, W = w3.drew.setRow rb ((nums b3).toArray.toList.take 8 ++ (nums id ++ (nums b3).toArray.toList.drop (8 + (nums id).length))).toArray := ⟨_, rfl⟩
  have hkW : Kept [rb] w3 W := by rw [hW]; exact ((Kept.refl [rb] w3).drew).trans (kept_setRow w3.drew rb _) (by simp)
  have hrow : W.heap[rb]? = some (.cells (nums (hdrB L id ++ bs.drop 20)).toArray 5 (0, 0)) := by
    rw [hW, ← HQ.out.2.2]
    exact setRow_nums (w := w3.drew) HQ.out.1.2.1 8
  have hlen : (hdrB L id ++ bs.drop 20).length = c := by
    have := HC.out; have := HCC.out
    simp only [List.length_append, hdrB_length L id HI.out, List.length_drop]; omega
  have hF : RawMsg W g rb L id at_ n (hdrB L id ++ bs.drop 20) := by
    have hm := HQ.out.1.1.kept hkW (by simpa using hne)
    rw [HQ.out.2.1, ← hlen] at hm
    exact ⟨hm, hrow, by have := HCC.out; have := H.out.2.2.1; omega, HQ.out.1.2.2.2⟩
  have HF := Lib.hid (And.intro hF (H3.out.2.trans hkW (by simp)))
  have hS : W.cell? ⟨g, 16, none⟩ = some (.slice (some ⟨rb, 0, none⟩) n c) := hkW.cell hHeld (by simpa using hne)
  rw [← hW]
  clear hW hkW hrow hlen hF
  refine hK.out _ _ hS (fun hHeld => ?_)
  clear hK K hS
  refine wpAnyH_done (by kernel_rfl) ?_ _
  go_wp2_with fail
  go_end0
  exact ⟨rfl, HF.out.1, HF.out.2⟩
end Go.Proofs.YthgghgejndncnaaGreat

/- what '(*Message).Add' leans on: grow, whichever way; slices of a known row; copy into a message under construction. -/
namespace Go.Proofs.YthgghgejndncnaaGreat
open Go.RowKit
set_option linter.unusedSimpArgs false
set_option linter.unusedVariables false

theorem mgrow_any (g rb : Nat) (L : Int) (id : List Int) (at_ : Value) (n : Nat) (bs : List Int) (w : World) (h : RawMsg w g rb L id at_ n bs) (m : Int) (n' : Nat) (hm : (n' : Int) = m) (hsm : n' ≤ 100000) :
    Calls Tryz.prog 27 #[.pointer (some ⟨g, 0, none⟩), .int .i64 m] w fun e w' => e = .returned (.tuple #[]) ∧ ∃ rb' n2 bs', RawMsg w' g rb' L id at_ n2 bs' ∧ n' ≤ n2 ∧ bs'.take n = bs.take n ∧ bs.length ≤ bs'.length ∧ (rb' = rb ∨ w.heap.size ≤ rb') ∧ Kept [g] w w' := by
  subst hm
  rcases Nat.lt_or_ge n n' with h1 | h1
  · rcases Nat.lt_or_ge bs.length n' with h2 | h2
    · refine (mgrow_grow g rb L id at_ n n' bs w h h1 h2 hsm).mono ?_
      rintro e w' ⟨rfl, rb', bs', hr, ht, hs, hk⟩
      exact ⟨rfl, rb', n', bs', hr, Nat.le_refl _, ht, by have := hr.2.2.1; omega, .inr hs, hk⟩
    · refine (mgrow_room g rb L id at_ n n' bs w h h1 h2).mono ?_
      rintro e w' ⟨rfl, hr, hk⟩
      exact ⟨rfl, rb, n', bs, hr, Nat.le_refl _, rfl, Nat.le_refl _, .inl rfl, hk⟩
  · refine (mgrow_no g rb L id at_ n n' bs w h h1).mono ?_
    rintro e w' ⟨rfl, rfl⟩
    exact ⟨rfl, rb, n, bs, h, h1, rfl, Nat.le_refl _, .inl rfl, Kept.refl _ _⟩

/-- 'x[lo:hi]' of a slice whose address is known -/
theorem sl_mid (b o n c lo hi k : Nat) (li hii : Int) (e1 : li = lo) (e2 : hii = hi) (hk : hi = lo + k) (h2 : hi ≤ c) (h3 : lo < c) (W : World) :
    (Instr.slice 24 (.slice (some ⟨b, o, none⟩) n c) (some (.int .i64 li)) (some (.int .i64 hii)) none).run Tryz.prog W = .ok (.slice (some ⟨b, o + lo, none⟩) k (c - lo)) W := by
  obtain ⟨i0, hi0, hz0, hz1, hz2⟩ := info_parts info_u8
  subst e1 e2 hk
  have hel : Tryz.prog.elem 24 = 5 := by simp [Program.elem, Tryz.underlying24]
  have hu : Tryz.prog.underlying 24 = some (.slice (Tryz.prog.elem 24)) := by rw [hel]; exact Tryz.underlying24
  rw [run_slice_lh W 24 (some ⟨b, o, none⟩) n c hu .i64 .i64 (lo : Int) ((lo + k : Nat) : Int) (by omega) (by omega) (by omega), hel]
  have hk0 : ((lo : Int) + (k : Int)).toNat - lo = k := by omega
  have hcl : ¬ c = lo := by omega
  simp [sizeOf, typeInfo, hi0, hz1, sliced, Result.andThen, hk0, hcl, Addr.add_lit]

/-- 'x[lo:]' of a slice whose address is known -/
theorem sl_from (b o n c lo k : Nat) (li : Int) (e1 : li = lo) (hk : n = lo + k) (h2 : n ≤ c) (h3 : lo < c) (W : World) :
    (Instr.slice 24 (.slice (some ⟨b, o, none⟩) n c) (some (.int .i64 li)) none none).run Tryz.prog W = .ok (.slice (some ⟨b, o + lo, none⟩) k (c - lo)) W := by
  obtain ⟨i0, hi0, hz0, hz1, hz2⟩ := info_parts info_u8
  subst e1 hk
  have hel : Tryz.prog.elem 24 = 5 := by simp [Program.elem, Tryz.underlying24]
  have hu : Tryz.prog.underlying 24 = some (.slice (Tryz.prog.elem 24)) := by rw [hel]; exact Tryz.underlying24
  rw [run_slice_l W 24 (some ⟨b, o, none⟩) (lo + k) c hu .i64 (lo : Int) (by omega) (by omega), hel]
  have hcl : ¬ c = lo := by omega
  simp [sizeOf, typeInfo, hi0, hz1, sliced, Result.andThen, hcl, Addr.add_lit]

/-- 'x[:hi]' of a slice whose address is known -/
theorem sl_to (b o n c hi : Nat) (hii : Int) (e2 : hii = hi) (h2 : hi ≤ c) (W : World) :
    (Instr.slice 24 (.slice (some ⟨b, o, none⟩) n c) none (some (.int .i64 hii)) none).run Tryz.prog W = .ok (.slice (some ⟨b, o, none⟩) hi c) W := by
  obtain ⟨i0, hi0, hz0, hz1, hz2⟩ := info_parts info_u8
  subst e2
  have hel : Tryz.prog.elem 24 = 5 := by simp [Program.elem, Tryz.underlying24]
  have hu : Tryz.prog.underlying 24 = some (.slice (Tryz.prog.elem 24)) := by rw [hel]; exact Tryz.underlying24
  rw [run_slice_h W 24 (some ⟨b, o, none⟩) n c hu .i64 (hi : Int) (by omega) (by omega), hel]
  simp [sizeOf, typeInfo, hi0, hz1, sliced, Result.andThen, Addr.add_lit]

/-- copy into a message under construction -/
theorem wpList_copy_raw {ops : Array Oper} {rest : List Oper} {o : Oper} {a : Act} {Q : Exit → Act → World → Prop} {w : World} (hgd : o.guard = none) (d s : Operand)
    (ho : o.op = .call { callee := .builtin .copy, args := #[d, s], argTypes := #[24, 24] }) (g rb : Nat) (L : Int) (id : List Int) (at_ : Value) (n : Nat) (bs : List Int) (h : RawMsg w g rb L id at_ n bs) (off l dCap c : Nat) (A : Option Addr) (v : List Int)
    (hd : a.eval d = .slice (some ⟨rb, off, none⟩) l dCap) (hs : a.eval s = .slice A l c) (hv : v.length = l) (hR : Rd w A v) (hoff : off + l ≤ bs.length)
    (hq : ∀ w', RawMsg w' g rb L id at_ n (bs.take off ++ v ++ bs.drop (off + v.length)) → Kept [rb] w w' → wpList Tryz.prog ops Q rest (a.put o.dst (goInt v.length)) w') :
    wpList Tryz.prog ops Q (o :: rest) a w := by
  rcases Nat.eq_zero_or_pos l with h0 | h0
  · subst h0
    obtain rfl : v = [] := List.eq_nil_of_length_eq_zero hv
    refine wpList_copy_nothing hgd d s 24 24 ho 5 Tryz.underlying24 (by kernel_rfl) _ _ _ _ _ _ hd hs (by simp) ?_
    exact hq w (by simpa using h) (Kept.refl _ _)
  · obtain ⟨b', o', rfl, -⟩ := hR (fun e => by subst e; simp at hv; omega)
    refine wpList_copy_own hgd d s 24 24 ho 5 Tryz.underlying24 (by kernel_rfl) rb off l dCap ⟨b', o', none⟩ l c hd hs (nums bs).toArray 5 h.2.1 (nums v) (by simp [nums_length, hv]) (rd_src hR) (by simp only [nums_length, List.size_toArray, hv]; exact hoff) (nums_one v) ?_
    rw [nums_length]
    have hk := kept_setRow w rb ((nums bs).toArray.toList.take off ++ (nums v ++ (nums bs).toArray.toList.drop (off + (nums v).length))).toArray
    have hr := setRow_nums (cs := v) h.2.1 off
    rw [nums_length] at hk hr
    have hlen : (bs.take off ++ v ++ bs.drop (off + v.length)).length = bs.length := by simp [hv]; omega
    have hm := h.1.kept hk (by simpa using fun e => h.2.2.2 e.symm)
    rw [← hlen] at hm
    exact hq _ ⟨hm, hr, by rw [hlen]; exact h.2.2.1, h.2.2.2⟩ hk
end Go.Proofs.YthgghgejndncnaaGreat
