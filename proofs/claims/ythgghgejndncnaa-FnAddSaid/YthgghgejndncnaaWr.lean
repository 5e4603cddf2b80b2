/- '(*Message).WriteType', 'WriteLength', 'WriteHeader' of a message under construction. -/
import Derived.Test.YthgghgejndncnaaGrow2
import Derived.WalkSpells
import Derived.WalkLawsBesides
namespace Go.Proofs.Ythgghgejndncnaa
open Go.RowKit
set_option linter.unusedSimpArgs false
set_option linter.unusedVariables false

section
variable {w : World} {g rb n : Nat} {L : Int} {id bs : List Int} {at_ : Value}
theorem MsgBlk.far {M C : Int} {rw_ : Value} (h : MsgBlk w g M C L id at_ rw_) {p : Addr} (hp : g ≠ p.block) (u : Value) : MsgBlk (w.setCell p u) g M C L id at_ rw_ := ⟨h.1, blk_far h.2 hp u⟩
theorem RawMsg.raw (h : RawMsg w g rb L id at_ n bs) : w.cell? ⟨g, 16, none⟩ = some (.slice (some ⟨rb, 0, none⟩) n bs.length) := h.1.facts.2.2.2.2.1
theorem RawMsg.cell (h : RawMsg w g rb L id at_ n bs) (i : Nat) (hi : i < bs.length) : w.cell? ⟨rb, i, none⟩ = some (.int .u8 (bs.getD i 0)) := by
  rw [blk_cell h.2.1, List.getElem?_toArray]
  exact nums_get hi
theorem RawMsg.free (h : RawMsg w g rb L id at_ n bs) (i : Nat) : w.frozen? ⟨rb, i, none⟩ = false := blk_free h.2.1 i
theorem RawMsg.put (h : RawMsg w g rb L id at_ n bs) (i : Nat) (x : Int) : RawMsg (w.setCell ⟨rb, i, none⟩ (.int .u8 x)) g rb L id at_ n (bs.set i x) := by
  refine ⟨?_, ?_, by rw [List.length_set]; exact h.2.2.1, h.2.2.2⟩
  · rw [List.length_set]; exact h.1.far (fun e => h.2.2.2 e.symm) _
  · rw [← nums_set]; exact blk_set h.2.1 i _
theorem RawMsg.kept {w' : World} {S : List Nat} (h : RawMsg w g rb L id at_ n bs) (k : Kept S w w') (hg : g ∉ S) (hr : rb ∉ S) : RawMsg w' g rb L id at_ n bs := ⟨h.1.kept k hg, blk_kept h.2.1 k hr, h.2.2⟩
theorem RawMsg.below {w' : World} (h : RawMsg w g rb L id at_ n bs) (k : Below w.heap.size w w') : RawMsg w' g rb L id at_ n bs := h.kept (Kept.of_below (S := []) k) (by simp) (by simp)
theorem RawMsg.drew (h : RawMsg w g rb L id at_ n bs) : RawMsg w.drew g rb L id at_ n bs := h
theorem RawMsg.lt (h : RawMsg w g rb L id at_ n bs) : g < w.heap.size ∧ rb < w.heap.size := ⟨h.1.lt, blk_lt h.2.1⟩
end

theorem mgrow_lit (g rb : Nat) (L : Int) (id : List Int) (at_ : Value) (n : Nat) (bs : List Int) (w : World) (h : RawMsg w g rb L id at_ n bs) (m : Int) (k : Nat) (hm : (k : Int) = m) (hn : k ≤ n) :
    Calls Try.prog 66 #[.pointer (some ⟨g, 0, none⟩), .int .i64 m] w fun e w' => e = .returned (.tuple #[]) ∧ w = w' := by
  subst hm
  exact (mgrow_no g rb L id at_ n k bs w h hn).mono fun _ _ ⟨he, hw⟩ => ⟨he, hw.symm⟩

theorem sput16_raw (g rb : Nat) (L : Int) (id : List Int) (at_ : Value) (n : Nat) (bs : List Int) (w : World) (h : RawMsg w g rb L id at_ n bs) (o k c : Nat) (v : Int) (hk : 2 ≤ k) (ho : o + 1 < bs.length) (hv : 0 ≤ v ∧ v ≤ 65535) :
    Calls Try.prog 83 #[.slice (some ⟨rb, o, none⟩) k c, .int .u16 v] w fun e w' => e = .returned (.tuple #[]) ∧ RawMsg w' g rb L id at_ n ((bs.set o (v / 256)).set (o + 1) (v % 256)) ∧ Kept [rb] w w' := by
  refine (sput16_any rb o k c v _ _ w hk hv (h.cell o (by omega)) (h.cell (o + 1) ho) (h.free _) (h.free _)).mono ?_
  rintro e w' ⟨rfl, rfl⟩
  exact ⟨rfl, (h.put _ _).put _ _, ((Kept.refl _ _).setCell (.inl (by simp)) _).setCell (.inl (by simp)) _⟩

theorem sput32_raw (g rb : Nat) (L : Int) (id : List Int) (at_ : Value) (n : Nat) (bs : List Int) (w : World) (h : RawMsg w g rb L id at_ n bs) (o k c : Nat) (v : Int) (hk : 4 ≤ k) (ho : o + 3 < bs.length) (hv : 0 ≤ v ∧ v ≤ 4294967295) :
    Calls Try.prog 69 #[.slice (some ⟨rb, o, none⟩) k c, .int .u32 v] w fun e w' => e = .returned (.tuple #[]) ∧ RawMsg w' g rb L id at_ n ((((bs.set o (v / 16777216)).set (o + 1) (v / 65536 % 256)).set (o + 2) (v / 256 % 256)).set (o + 3) (v % 256)) ∧ Kept [rb] w w' := by
  refine (sput32_any rb o k c v _ _ _ _ w hk hv (h.cell o (by omega)) (h.cell (o + 1) (by omega)) (h.cell (o + 2) (by omega)) (h.cell (o + 3) ho) (h.free _) (h.free _) (h.free _) (h.free _)).mono ?_
  rintro e w' ⟨rfl, rfl⟩
  exact ⟨rfl, (((h.put _ _).put _ _).put _ _).put _ _, ((((Kept.refl _ _).setCell (.inl (by simp)) _).setCell (.inl (by simp)) _).setCell (.inl (by simp)) _).setCell (.inl (by simp)) _⟩

set_option maxHeartbeats 1000000 in
/-- '(MessageType).Value' of the type 0 -/
theorem mtValue_any (w : World) :
    Calls Try.prog 84 #[.agg #[.int .u16 0, .int .u8 0]] w fun e w' => e = .returned (.int .u16 0) ∧ Below w.heap.size w w' := by
  go_enter Try.func84, Try.ntmps84
  go_wp2
  go_ret
  exact ⟨by rfl, below_alloc _ _⟩

set_option maxRecDepth 100000 in
set_option maxHeartbeats 2000000 in
theorem mWT_any (g rb : Nat) (L : Int) (id : List Int) (at_ : Value) (n : Nat) (bs : List Int) (w : World) (h : RawMsg w g rb L id at_ n bs) (hn : 20 ≤ n) :
    Calls Try.prog 67 #[.pointer (some ⟨g, 0, none⟩)] w fun e w' => e = .returned (.tuple #[]) ∧ RawMsg w' g rb L id at_ n ((bs.set 0 0).set 1 0) ∧ Kept [rb] w w' := by
  have hc : 20 ≤ bs.length := by have := h.2.2.1; omega
  have H := Lib.hid h
  clear h
  go_enter Try.func67, Try.ntmps67
  go_upto_region 1 with (go_at_call 66; refine (mgrow_lit g rb L id at_ n bs _ H.out 2 2 rfl (by omega)).mono ?_; rintro e w' ⟨rfl, rfl⟩)
  have hfx := H.out.1.facts
  have hraw := hfx.2.2.2.2.1
  have l2 : (2 : Int) ≤ bs.length := by omega
  have HC := Lib.hid (show 1 < bs.length by omega)
  generalize hcc : bs.length = c at hraw l2
  refine wp_region_held_drew (S := fun w' => w'.cell? ⟨g, 16, none⟩ = some (.slice (some ⟨rb, 0, none⟩) n c) ∧ w'.cell? ⟨g, 0, none⟩ = some (.int .u16 0) ∧ w'.cell? ⟨g, 1, none⟩ = some (.int .u8 0)) (by kernel_rfl) ⟨hraw, hfx.1, hfx.2.1⟩ (fun hHeld => ?_)
  clear hfx hraw hcc
  refine wpAnyH_take (i := 0) (v := ?_) rfl (by kernel_rfl) (by kernel_rfl) (by kernel_rfl) (fun _ _ _ h => h) (Or.inl ⟨by rfl, ?_⟩) hHeld ?_
  rotate_left
  · (intro w' hSw; (try dsimp only at hSw); go_simp <;> with_reducible rfl)
  simp only [List.getElem_toArray, List.getElem_cons_succ, List.getElem_cons_zero, Act.put, List.setIfInBounds_toArray, List.set_cons_zero, List.set_cons_succ]
  refine wpAnyH_take (i := 1) (v := ?_) rfl (by kernel_rfl) (by kernel_rfl) (by kernel_rfl) (fun _ _ _ h => h) (Or.inl ⟨by rfl, ?_⟩) hHeld ?_
  rotate_left
  · (intro w' hSw; (try dsimp only at hSw); go_simp <;> with_reducible rfl)
  simp only [List.getElem_toArray, List.getElem_cons_succ, List.getElem_cons_zero, Act.put, List.setIfInBounds_toArray, List.set_cons_zero, List.set_cons_succ]
  refine wpAnyH_take (i := 2) (v := ?_) rfl (by kernel_rfl) (by kernel_rfl) (by kernel_rfl) (fun _ _ _ h => h) (Or.inl ⟨by rfl, ?_⟩) hHeld ?_
  rotate_left
  · (intro w' hSw; (try dsimp only at hSw); go_simp <;> with_reducible rfl)
  simp only [List.getElem_toArray, List.getElem_cons_succ, List.getElem_cons_zero, Act.put, List.setIfInBounds_toArray, List.set_cons_zero, List.set_cons_succ]
  refine wpAnyH_take (i := 3) (v := ?_) rfl (by kernel_rfl) (by kernel_rfl) (by kernel_rfl) (fun _ _ _ h => h) (Or.inl ⟨by rfl, ?_⟩) hHeld ?_
  rotate_left
  · (intro w' hSw; (try dsimp only at hSw); go_simp <;> with_reducible rfl)
  simp only [List.getElem_toArray, List.getElem_cons_succ, List.getElem_cons_zero, Act.put, List.setIfInBounds_toArray, List.set_cons_zero, List.set_cons_succ]
  refine wpAnyH_take (i := 4) (v := ?_) rfl (by kernel_rfl) (by kernel_rfl) (by kernel_rfl) (fun _ _ _ h => h) (Or.inl ⟨by rfl, ?_⟩) hHeld ?_
  rotate_left
  · (intro w' hSw; (try dsimp only at hSw); go_simp <;> with_reducible rfl)
  simp only [List.getElem_toArray, List.getElem_cons_succ, List.getElem_cons_zero, Act.put, List.setIfInBounds_toArray, List.set_cons_zero, List.set_cons_succ]
  refine wpAnyH_take (i := 5) (v := ?_) rfl (by kernel_rfl) (by kernel_rfl) (by kernel_rfl) (fun _ _ _ h => h) (Or.inl ⟨by rfl, ?_⟩) hHeld ?_
  rotate_left
  · (intro w' hSw; (try dsimp only at hSw); go_simp <;> with_reducible rfl)
  simp only [List.getElem_toArray, List.getElem_cons_succ, List.getElem_cons_zero, Act.put, List.setIfInBounds_toArray, List.set_cons_zero, List.set_cons_succ]
  refine wpAnyH_take (i := 6) (v := ?_) rfl (by kernel_rfl) (by kernel_rfl) (by kernel_rfl) (fun _ _ _ h => h) (Or.inl ⟨by rfl, ?_⟩) hHeld ?_
  rotate_left
  · (intro w' hSw; (try dsimp only at hSw); go_simp <;> with_reducible rfl)
  simp only [List.getElem_toArray, List.getElem_cons_succ, List.getElem_cons_zero, Act.put, List.setIfInBounds_toArray, List.set_cons_zero, List.set_cons_succ]
  refine wpAnyH_take (i := 7) (v := ?_) rfl (by kernel_rfl) (by kernel_rfl) (by kernel_rfl) (fun _ _ _ h => h) (Or.inl ⟨by rfl, ?_⟩) hHeld ?_
  rotate_left
  · (intro w' hSw; (try dsimp only at hSw); go_simp <;> with_reducible rfl)
  simp only [List.getElem_toArray, List.getElem_cons_succ, List.getElem_cons_zero, Act.put, List.setIfInBounds_toArray, List.set_cons_zero, List.set_cons_succ]
  refine wpAnyH_take (i := 8) (v := ?_) rfl (by kernel_rfl) (by kernel_rfl) (by kernel_rfl) (fun _ _ _ h => h) (Or.inl ⟨by rfl, ?_⟩) hHeld ?_
  rotate_left
  · (intro w' hSw; (try dsimp only at hSw); go_simp <;> with_reducible rfl)
  simp only [List.getElem_toArray, List.getElem_cons_succ, List.getElem_cons_zero, Act.put, List.setIfInBounds_toArray, List.set_cons_zero, List.set_cons_succ]
  refine wpAnyH_ready (rs := [9]) (by kernel_rfl) (by simp) ?_
  refine AllReadyH.cons rfl (fun K hK => ?_) AllReadyH.nil
  go_simp
  go_at_call 84
  refine (mtValue_any _).mono ?_
  rintro e w1 ⟨rfl, hB1⟩
  have hB : Below w.heap.size w w1 := below_drew hB1
  have h1 := H.out.below hB
  have hfx := h1.1.facts
  have H1 := Lib.hid (And.intro h1 hB)
  refine hK.out _ _ ⟨(Kept.of_below (S := []) hB).cell hHeld.1 (by simp), hfx.1, hfx.2.1⟩ (fun hHeld => ?_)
  clear hK K hB1 hB h1 hfx
  refine wpAnyH_ready (rs := [10]) (by kernel_rfl) (by simp) ?_
  refine AllReadyH.cons rfl (fun K hK => ?_) AllReadyH.nil
  go_simp
  go_at_call 83
  refine (sput16_raw g rb L id at_ n bs _ H1.out.1 0 2 c 0 (by omega) HC.out (by omega)).mono ?_
  rintro e w2 ⟨rfl, h2, hk2⟩
  have HF := Lib.hid (And.intro h2 ((Kept.of_below (S := [rb]) H1.out.2).trans hk2 (by simp)))
  have hfx := h2.1.facts
  refine hK.out _ _ ⟨hk2.cell hHeld.1 (by simpa using fun e => H1.out.1.2.2.2 e.symm), hfx.1, hfx.2.1⟩ (fun hHeld => ?_)
  clear h2 hk2 hfx
  clear hK K
  refine wpAnyH_done (by kernel_rfl) ?_ _
  go_wp2_with fail
  go_end0
  exact ⟨rfl, HF.out.1, HF.out.2⟩

set_option maxRecDepth 100000 in
set_option maxHeartbeats 2000000 in
theorem mWL_any (g rb : Nat) (L : Int) (id : List Int) (at_ : Value) (n : Nat) (bs : List Int) (w : World) (h : RawMsg w g rb L id at_ n bs) (hn : 20 ≤ n) (hL : 0 ≤ L ∧ L ≤ 65535) :
    Calls Try.prog 68 #[.pointer (some ⟨g, 0, none⟩)] w fun e w' => e = .returned (.tuple #[]) ∧ RawMsg w' g rb L id at_ n ((bs.set 2 (L / 256)).set 3 (L % 256)) ∧ Kept [rb] w w' := by
  have hc : 20 ≤ bs.length := by have := h.2.2.1; omega
  have hwr : IntKind.u16.wrap L = L := wraps_u16 _ (by omega) (by omega)
  have H := Lib.hid h
  clear h
  go_enter Try.func68, Try.ntmps68
  go_upto_region 1 with (go_at_call 66; refine (mgrow_lit g rb L id at_ n bs _ H.out 4 4 rfl (by omega)).mono ?_; rintro e w' ⟨rfl, rfl⟩)
  have hfx := H.out.1.facts
  have hraw := hfx.2.2.2.2.1
  have l2 : (4 : Int) ≤ bs.length := by omega
  have l3 : ¬ bs.length = 2 := by omega
  have HC := Lib.hid (show 3 < bs.length by omega)
  generalize hcc : bs.length = c at hraw l2 l3
  refine wp_region_held_drew (S := fun w' => w'.cell? ⟨g, 16, none⟩ = some (.slice (some ⟨rb, 0, none⟩) n c) ∧ w'.cell? ⟨g, 2, none⟩ = some (.int .u32 L)) (by kernel_rfl) ⟨hraw, hfx.2.2.1⟩ (fun hHeld => ?_)
  clear hfx hraw hcc
  refine wpAnyH_take (i := 0) (v := ?_) rfl (by kernel_rfl) (by kernel_rfl) (by kernel_rfl) (fun _ _ _ h => h) (Or.inl ⟨by rfl, ?_⟩) hHeld ?_
  rotate_left
  · (intro w' hSw; (try dsimp only at hSw); go_simp <;> with_reducible rfl)
  simp only [List.getElem_toArray, List.getElem_cons_succ, List.getElem_cons_zero, Act.put, List.setIfInBounds_toArray, List.set_cons_zero, List.set_cons_succ]
  refine wpAnyH_take (i := 1) (v := ?_) rfl (by kernel_rfl) (by kernel_rfl) (by kernel_rfl) (fun _ _ _ h => h) (Or.inl ⟨by rfl, ?_⟩) hHeld ?_
  rotate_left
  · (intro w' hSw; (try dsimp only at hSw); go_simp <;> with_reducible rfl)
  simp only [List.getElem_toArray, List.getElem_cons_succ, List.getElem_cons_zero, Act.put, List.setIfInBounds_toArray, List.set_cons_zero, List.set_cons_succ]
  refine wpAnyH_take (i := 2) (v := ?_) rfl (by kernel_rfl) (by kernel_rfl) (by kernel_rfl) (fun _ _ _ h => h) (Or.inl ⟨by rfl, ?_⟩) hHeld ?_
  rotate_left
  · (intro w' hSw; (try dsimp only at hSw); go_simp <;> with_reducible rfl)
  simp only [List.getElem_toArray, List.getElem_cons_succ, List.getElem_cons_zero, Act.put, List.setIfInBounds_toArray, List.set_cons_zero, List.set_cons_succ]
  refine wpAnyH_take (i := 3) (v := ?_) rfl (by kernel_rfl) (by kernel_rfl) (by kernel_rfl) (fun _ _ _ h => h) (Or.inl ⟨by rfl, ?_⟩) hHeld ?_
  rotate_left
  · (intro w' hSw; (try dsimp only at hSw); go_simp <;> with_reducible rfl)
  simp only [List.getElem_toArray, List.getElem_cons_succ, List.getElem_cons_zero, Act.put, List.setIfInBounds_toArray, List.set_cons_zero, List.set_cons_succ]
  refine wpAnyH_take (i := 4) (v := ?_) rfl (by kernel_rfl) (by kernel_rfl) (by kernel_rfl) (fun _ _ _ h => h) (Or.inl ⟨by rfl, ?_⟩) hHeld ?_
  rotate_left
  · (intro w' hSw; (try dsimp only at hSw); go_simp <;> with_reducible rfl)
  simp only [List.getElem_toArray, List.getElem_cons_succ, List.getElem_cons_zero, Act.put, List.setIfInBounds_toArray, List.set_cons_zero, List.set_cons_succ]
  refine wpAnyH_take (i := 5) (v := ?_) rfl (by kernel_rfl) (by kernel_rfl) (by kernel_rfl) (fun _ _ _ h => h) (Or.inl ⟨by rfl, ?_⟩) hHeld ?_
  rotate_left
  · (intro w' hSw; (try dsimp only at hSw); go_simp <;> with_reducible rfl)
  simp only [List.getElem_toArray, List.getElem_cons_succ, List.getElem_cons_zero, Act.put, List.setIfInBounds_toArray, List.set_cons_zero, List.set_cons_succ]
  refine wpAnyH_take (i := 6) (v := ?_) rfl (by kernel_rfl) (by kernel_rfl) (by kernel_rfl) (fun _ _ _ h => h) (Or.inl ⟨by rfl, ?_⟩) hHeld ?_
  rotate_left
  · (intro w' hSw; (try dsimp only at hSw); go_simp <;> with_reducible rfl)
  simp only [List.getElem_toArray, List.getElem_cons_succ, List.getElem_cons_zero, Act.put, List.setIfInBounds_toArray, List.set_cons_zero, List.set_cons_succ]
  refine wpAnyH_take (i := 7) (v := ?_) rfl (by kernel_rfl) (by kernel_rfl) (by kernel_rfl) (fun _ _ _ h => h) (Or.inl ⟨by rfl, ?_⟩) hHeld ?_
  rotate_left
  · (intro w' hSw; (try dsimp only at hSw); go_simp <;> with_reducible rfl)
  simp only [List.getElem_toArray, List.getElem_cons_succ, List.getElem_cons_zero, Act.put, List.setIfInBounds_toArray, List.set_cons_zero, List.set_cons_succ]
  refine wpAnyH_take (i := 8) (v := ?_) rfl (by kernel_rfl) (by kernel_rfl) (by kernel_rfl) (fun _ _ _ h => h) (Or.inl ⟨by rfl, ?_⟩) hHeld ?_
  rotate_left
  · (intro w' hSw; (try dsimp only at hSw); go_simp <;> with_reducible rfl)
  simp only [List.getElem_toArray, List.getElem_cons_succ, List.getElem_cons_zero, Act.put, List.setIfInBounds_toArray, List.set_cons_zero, List.set_cons_succ]
  refine wpAnyH_take (i := 9) (v := ?_) rfl (by kernel_rfl) (by kernel_rfl) (by kernel_rfl) (fun _ _ _ h => h) (Or.inl ⟨by rfl, ?_⟩) hHeld ?_
  rotate_left
  · (intro w' hSw; (try dsimp only at hSw); go_simp <;> with_reducible rfl)
  simp only [List.getElem_toArray, List.getElem_cons_succ, List.getElem_cons_zero, Act.put, List.setIfInBounds_toArray, List.set_cons_zero, List.set_cons_succ]
  refine wpAnyH_ready (rs := [10]) (by kernel_rfl) (by simp) ?_
  refine AllReadyH.cons rfl (fun K hK => ?_) AllReadyH.nil
  go_simp
  go_at_call 83
  refine (sput16_raw g rb L id at_ n bs _ H.out.drew 2 2 (c - 2) L (by omega) HC.out hL).mono ?_
  rintro e w2 ⟨rfl, h2, hk2⟩
  have HF := Lib.hid (And.intro h2 (show Kept [rb] w w2 from ((Kept.refl [rb] w).drew).trans hk2 (by simp)))
  have hfx := h2.1.facts
  refine hK.out _ _ ⟨hk2.cell hHeld.1 (by simpa using fun e => H.out.2.2.2 e.symm), hfx.2.2.1⟩ (fun hHeld => ?_)
  clear h2 hk2 hfx
  clear hK K
  refine wpAnyH_done (by kernel_rfl) ?_ _
  go_wp2_with fail
  go_end0
  exact ⟨rfl, HF.out.1, HF.out.2⟩

/-- a message's header -/
def hdrB (L : Int) (id : List Int) : List Int := [0, 0, L / 256, L % 256, 33, 18, 164, 66] ++ id
theorem hdrB_length (L : Int) (id : List Int) (h : id.length = 12) : (hdrB L id).length = 20 := by simp [hdrB, h]
theorem list8 (bs : List Int) (h : 8 ≤ bs.length) : ∃ a b c d e f g i r, bs = a :: b :: c :: d :: e :: f :: g :: i :: r := by
  match bs, h with
  | a :: b :: c :: d :: e :: f :: g :: i :: r, _ => exact ⟨a, b, c, d, e, f, g, i, r, rfl⟩
/-- what the header's writing makes of the bytes -/
theorem hdr_set (bs : List Int) (L : Int) (id : List Int) (h : 20 ≤ bs.length) (hid : id.length = 12) :
    (((((((((bs.set 0 0).set 1 0).set 2 (L / 256)).set 3 (L % 256)).set 4 33).set (4 + 1) 18).set (4 + 2) 164).set (4 + 3) 66)).take 8 ++ id ++ (((((((((bs.set 0 0).set 1 0).set 2 (L / 256)).set 3 (L % 256)).set 4 33).set (4 + 1) 18).set (4 + 2) 164).set (4 + 3) 66)).drop (8 + id.length) = hdrB L id ++ bs.drop 20 := by
  obtain ⟨x0, x1, x2, x3, x4, x5, x6, x7, r, rfl⟩ := list8 bs (by omega)
  rw [hid]
  rfl
theorem setRow_nums {w : World} {rb : Nat} {bs cs : List Int} {T : TypeId} {fr : Nat × Nat} (h : w.heap[rb]? = some (.cells (nums bs).toArray T fr)) (off : Nat) :
    (w.setRow rb ((nums bs).toArray.toList.take off ++ (nums cs ++ (nums bs).toArray.toList.drop (off + (nums cs).length))).toArray).heap[rb]? = some (.cells (nums (bs.take off ++ cs ++ bs.drop (off + cs.length))).toArray T fr) := by
  rw [setRow_heap w rb _ _ _ _ h]
  simp [nums, List.map_take, List.map_drop]

set_option maxRecDepth 100000 in
set_option maxHeartbeats 2000000 in
theorem mWH_any (g rb : Nat) (L : Int) (id : List Int) (at_ : Value) (n : Nat) (bs : List Int) (w : World) (h : RawMsg w g rb L id at_ n bs) (hn : 20 ≤ n) (hL : 0 ≤ L ∧ L ≤ 65535) :
    Calls Try.prog 44 #[.pointer (some ⟨g, 0, none⟩)] w fun e w' => e = .returned (.tuple #[]) ∧ RawMsg w' g rb L id at_ n (hdrB L id ++ bs.drop 20) ∧ Kept [rb] w w' := by
  have hc : 20 ≤ bs.length := by have := h.2.2.1; omega
  have hraw := h.raw
  have hne : g ≠ rb := fun e => h.2.2.2 e.symm
  have hid := h.1.1
  have l20 : (20 : Int) ≤ bs.length := by omega
  have l8 : (8 : Int) ≤ bs.length := by omega
  have l4 : ¬ bs.length = 4 := by omega
  have l8' : ¬ bs.length = 8 := by omega
  have H := Lib.hid h
  have HI := Lib.hid hid
  have HC := Lib.hid hc
  clear h hid hc
  generalize hcc : bs.length = c at hraw l20 l8 l4 l8'
  have HCC := Lib.hid hcc
  clear hcc
  go_enter Try.func44, Try.ntmps44
  go_upto_region 2 with (go_at_call 66; refine (mgrow_lit g rb L id at_ n bs _ H.out 20 20 rfl (by omega)).mono ?_; rintro e w' ⟨rfl, rfl⟩)
  go_wp2_with fail
  refine (mWT_any g rb L id at_ n bs _ H.out hn).mono ?_
  rintro e w1 ⟨rfl, h1, hk1⟩
  have H1 := Lib.hid (And.intro h1 hk1)
  clear h1 hk1 hraw
  go_wp2_with fail
  refine (mWL_any g rb L id at_ n _ _ H1.out.1 hn hL).mono ?_
  rintro e w2 ⟨rfl, h2, hk2⟩
  have hraw : w2.cell? ⟨g, 16, none⟩ = some (.slice (some ⟨rb, 0, none⟩) n c) := by
    have := h2.raw
    simpa only [List.length_set, HCC.out] using this
  have H2 := Lib.hid (And.intro h2 (H1.out.2.trans hk2 (by simp)))
  clear h2 hk2
  go_upto_region 5 with (go_at_call 69; refine (sput32_raw g rb L id at_ n _ _ H2.out.1 4 4 (c - 4) 554869826 (by omega) (by have := HC.out; simp only [List.length_set]; omega) (by omega)).mono ?_; rintro e w3 ⟨rfl, h3, hk3⟩; have H3 := Lib.hid (And.intro h3 (H2.out.2.trans hk3 (by simp))); clear h3 hk3)
  clear hraw
  have h3 := H3.out.1
  generalize hb3 : ((((((((bs.set 0 0).set 1 0).set 2 (L / 256)).set 3 (L % 256)).set 4 (554869826 / 16777216)).set (4 + 1) (554869826 / 65536 % 256)).set (4 + 2) (554869826 / 256 % 256)).set (4 + 3) (554869826 % 256)) = b3 at h3
  have hl3 : b3.length = c := by rw [← hb3]; simp only [List.length_set]; exact HCC.out
  have hbf : b3.take 8 ++ id ++ b3.drop (8 + id.length) = hdrB L id ++ bs.drop 20 := by
    rw [← hb3]
    exact hdr_set bs L id HC.out HI.out
  have hraw := h3.raw
  rw [hl3] at hraw
  have HQ := Lib.hid (And.intro h3 (And.intro hl3 hbf))
  clear h3 hl3 hbf hb3
  refine wp_region_held_drew (S := fun w' => w'.cell? ⟨g, 16, none⟩ = some (.slice (some ⟨rb, 0, none⟩) n c)) (by kernel_rfl) hraw (fun hHeld => ?_)
  clear hraw
  refine wpAnyH_take (i := 0) (v := ?_) rfl (by kernel_rfl) (by kernel_rfl) (by kernel_rfl) (fun _ _ _ h => h) (Or.inl ⟨by rfl, ?_⟩) hHeld ?_
  rotate_left
  · (intro w' hSw; (try dsimp only at hSw); go_simp <;> with_reducible rfl)
  simp only [List.getElem_toArray, List.getElem_cons_succ, List.getElem_cons_zero, Act.put, List.setIfInBounds_toArray, List.set_cons_zero, List.set_cons_succ]
  refine wpAnyH_take (i := 1) (v := ?_) rfl (by kernel_rfl) (by kernel_rfl) (by kernel_rfl) (fun _ _ _ h => h) (Or.inl ⟨by rfl, ?_⟩) hHeld ?_
  rotate_left
  · (intro w' hSw; (try dsimp only at hSw); go_simp <;> with_reducible rfl)
  simp only [List.getElem_toArray, List.getElem_cons_succ, List.getElem_cons_zero, Act.put, List.setIfInBounds_toArray, List.set_cons_zero, List.set_cons_succ]
  refine wpAnyH_take (i := 2) (v := ?_) rfl (by kernel_rfl) (by kernel_rfl) (by kernel_rfl) (fun _ _ _ h => h) (Or.inl ⟨by rfl, ?_⟩) hHeld ?_
  rotate_left
  · (intro w' hSw; (try dsimp only at hSw); go_simp <;> with_reducible rfl)
  simp only [List.getElem_toArray, List.getElem_cons_succ, List.getElem_cons_zero, Act.put, List.setIfInBounds_toArray, List.set_cons_zero, List.set_cons_succ]
  refine wpAnyH_take (i := 3) (v := ?_) rfl (by kernel_rfl) (by kernel_rfl) (by kernel_rfl) (fun _ _ _ h => h) (Or.inl ⟨by rfl, ?_⟩) hHeld ?_
  rotate_left
  · (intro w' hSw; (try dsimp only at hSw); go_simp <;> with_reducible rfl)
  simp only [List.getElem_toArray, List.getElem_cons_succ, List.getElem_cons_zero, Act.put, List.setIfInBounds_toArray, List.set_cons_zero, List.set_cons_succ]
  refine wpAnyH_take (i := 4) (v := ?_) rfl (by kernel_rfl) (by kernel_rfl) (by kernel_rfl) (fun _ _ _ h => h) (Or.inl ⟨by rfl, ?_⟩) hHeld ?_
  rotate_left
  · (intro w' hSw; (try dsimp only at hSw); go_simp <;> with_reducible rfl)
  simp only [List.getElem_toArray, List.getElem_cons_succ, List.getElem_cons_zero, Act.put, List.setIfInBounds_toArray, List.set_cons_zero, List.set_cons_succ]
  refine wpAnyH_take (i := 5) (v := ?_) rfl (by kernel_rfl) (by kernel_rfl) (by kernel_rfl) (fun _ _ _ h => h) (Or.inl ⟨by rfl, ?_⟩) hHeld ?_
  rotate_left
  · (intro w' hSw; (try dsimp only at hSw); go_simp <;> with_reducible rfl)
  simp only [List.getElem_toArray, List.getElem_cons_succ, List.getElem_cons_zero, Act.put, List.setIfInBounds_toArray, List.set_cons_zero, List.set_cons_succ]
  refine wpAnyH_take (i := 6) (v := ?_) rfl (by kernel_rfl) (by kernel_rfl) (by kernel_rfl) (fun _ _ _ h => h) (Or.inl ⟨by rfl, ?_⟩) hHeld ?_
  rotate_left
  · (intro w' hSw; (try dsimp only at hSw); go_simp <;> with_reducible rfl)
  simp only [List.getElem_toArray, List.getElem_cons_succ, List.getElem_cons_zero, Act.put, List.setIfInBounds_toArray, List.set_cons_zero, List.set_cons_succ]
  refine wpAnyH_take (i := 7) (v := ?_) rfl (by kernel_rfl) (by kernel_rfl) (by kernel_rfl) (fun _ _ _ h => h) (Or.inl ⟨by rfl, ?_⟩) hHeld ?_
  rotate_left
  · (intro w' hSw; (try dsimp only at hSw); go_simp <;> with_reducible rfl)
  simp only [List.getElem_toArray, List.getElem_cons_succ, List.getElem_cons_zero, Act.put, List.setIfInBounds_toArray, List.set_cons_zero, List.set_cons_succ]
  refine wpAnyH_take (i := 8) (v := ?_) rfl (by kernel_rfl) (by kernel_rfl) (by kernel_rfl) (fun _ _ _ h => h) (Or.inl ⟨by rfl, ?_⟩) hHeld ?_
  rotate_left
  · (intro w' hSw; (try dsimp only at hSw); go_simp <;> with_reducible rfl)
  simp only [List.getElem_toArray, List.getElem_cons_succ, List.getElem_cons_zero, Act.put, List.setIfInBounds_toArray, List.set_cons_zero, List.set_cons_succ]
  refine wpAnyH_ready (rs := [9]) (by kernel_rfl) (by simp) ?_
  refine AllReadyH.cons rfl (fun K hK => ?_) AllReadyH.nil
  refine step_copy_own 28 rfl rfl (.tmp 23) (.tmp 27) 24 24 rfl 5 Try.underlying24 (by kernel_rfl) rb 8 12 (c - 8) ⟨g, 3, none⟩ 12 12 rfl rfl (nums b3).toArray 5 ?_ (nums id) ?_ ?_ ?_ (nums_one id) ?_
  · exact HQ.out.1.2.1
  · rw [nums_length, HI.out]; rfl
  · exact rd_src HQ.out.1.1.rd
  · have := HC.out; have := HCC.out; have := HQ.out.2.1; simp only [nums_length, HI.out, List.size_toArray]; omega
  simp only [Act.put, List.setIfInBounds_toArray, List.set_cons_zero, List.set_cons_succ]
  obtain ⟨W, hW⟩ : ∃ W, W = w3.drew.setRow rb ((nums b3).toArray.toList.take 8 ++ (nums id ++ (nums b3).toArray.toList.drop (8 + (nums id).length))).toArray := ⟨_, rfl⟩
  have hkW : Kept [rb] w3 W := by rw [hW]; exact ((Kept.refl [rb] w3).drew).trans (kept_setRow w3.drew rb _) (by simp)
  have hrow : W.heap[rb]? = some (.cells (nums (hdrB L id ++ bs.drop 20)).toArray 5 (0, 0)) := by
    rw [hW, ← HQ.out.2.2]
    exact setRow_nums (w := w3.drew) HQ.out.1.2.1 8
  have hlen : (hdrB L id ++ bs.drop 20).length = c := by
    have := HC.out; have := HCC.out
    simp only [List.length_append, hdrB_length L id HI.out, List.length_drop]; omega
  have hF : RawMsg W g rb L id at_ n (hdrB L id ++ bs.drop 20) := by
    have hm := HQ.out.1.1.kept hkW (by simpa using hne)
    rw [HQ.out.2.1, ← hlen] at hm
    exact ⟨hm, hrow, by have := HCC.out; have := H.out.2.2.1; omega, HQ.out.1.2.2.2⟩
  have HF := Lib.hid (And.intro hF (H3.out.2.trans hkW (by simp)))
  have hS : W.cell? ⟨g, 16, none⟩ = some (.slice (some ⟨rb, 0, none⟩) n c) := hkW.cell hHeld (by simpa using hne)
  rw [← hW]
  clear hW hkW hrow hlen hF
  refine hK.out _ _ hS (fun hHeld => ?_)
  clear hK K hS
  refine wpAnyH_done (by kernel_rfl) ?_ _
  go_wp2_with fail
  go_end0
  exact ⟨rfl, HF.out.1, HF.out.2⟩
end Go.Proofs.Ythgghgejndncnaa
