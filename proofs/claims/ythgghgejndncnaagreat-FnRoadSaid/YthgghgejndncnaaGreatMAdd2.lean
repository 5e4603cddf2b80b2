/- '(*Message).Add'. -/
import Derived.Test.YthgghgejndncnaaGreatM7
import Derived.Deep.LoopGhost
namespace Go.Proofs.YthgghgejndncnaaGreat
open Go.RowKit
set_option linter.unusedSimpArgs false
set_option linter.unusedVariables false

/-- what stays while an attribute is added -/
structure AddSt (w : World) (g rb : Nat) (id : List Int) (wx : World) (rb1 n1 : Nat) (L : Int) (bs1 : List Int) : Prop where
  raw : RawMsg wx g rb1 L id (.slice none 0 0) n1 bs1
  own : rb1 = rb ∨ w.heap.size ≤ rb1
  kept : Kept [g, rb] w wx
  cap : 120 ≤ bs1.length

section
variable {w wx wy : World} {g rb rb1 n1 : Nat} {id bs1 : List Int} {L : Int}
theorem AddSt.kept1 (h : AddSt w g rb id wx rb1 n1 L bs1) {S : List Nat} (k : Kept S wx wy) (hS : ∀ s ∈ S, s = g ∨ s = rb1) : Kept [g, rb] w wy :=
  h.kept.trans k (fun s hs => by
    rcases hS s hs with rfl | rfl
    · exact .inl (by simp)
    · rcases h.own with rfl | h1
      · exact .inl (by simp)
      · exact .inr h1)
theorem AddSt.rd (h : AddSt w g rb id wx rb1 n1 L bs1) {A : Option Addr} {v : List Int} (hR : Rd w A v) (hA : ∀ a, A = some a → a.block ≠ g ∧ a.block ≠ rb) : Rd wx A v :=
  hR.kept h.kept (fun a e => by have := hA a e; simp; exact this)
theorem AddSt.grow (h : AddSt w g rb id wx rb1 n1 L bs1) {rb2 n2 : Nat} {bs2 : List Int} (hr : RawMsg wy g rb2 L id (.slice none 0 0) n2 bs2) (hl : bs1.length ≤ bs2.length) (ho : rb2 = rb1 ∨ wx.heap.size ≤ rb2) (k : Kept [g] wx wy) : AddSt w g rb id wy rb2 n2 L bs2 :=
  ⟨hr, by
    rcases ho with rfl | h1
    · exact h.own
    · exact .inr (Nat.le_trans h.kept.size h1), h.kept1 k (fun s hs => .inl (by simpa using hs)), Nat.le_trans h.cap hl⟩
theorem AddSt.len (h : AddSt w g rb id wx rb1 n1 L bs1) (n2 : Nat) (hn : n2 ≤ bs1.length) : AddSt w g rb id (wx.setCell ⟨g, 16, none⟩ (.slice (some ⟨rb1, 0, none⟩) n2 bs1.length)) rb1 n2 L bs1 :=
  ⟨⟨h.raw.1.set16 _, blk_far h.raw.2.1 h.raw.2.2.2 _, hn, h.raw.2.2.2⟩, h.own, h.kept.setCell (.inl (by simp)) _, h.cap⟩
theorem AddSt.lng (h : AddSt w g rb id wx rb1 n1 L bs1) (L2 : Int) : AddSt w g rb id (wx.setCell ⟨g, 2, none⟩ (.int .u32 L2)) rb1 n1 L2 bs1 :=
  ⟨⟨h.raw.1.set2 _, blk_far h.raw.2.1 h.raw.2.2.2 _, h.raw.2.2⟩, h.own, h.kept.setCell (.inl (by simp)) _, h.cap⟩
theorem AddSt.alloc (h : AddSt w g rb id wx rb1 n1 L bs1) (o : Obj) : AddSt w g rb id (wx.alloc o) rb1 n1 L bs1 :=
  ⟨h.raw.below (below_alloc _ _), h.own, h.kept.alloc o, h.cap⟩
theorem AddSt.drew (h : AddSt w g rb id wx rb1 n1 L bs1) : AddSt w g rb id wx.drew rb1 n1 L bs1 := ⟨h.raw, h.own, h.kept.drew, h.cap⟩
theorem AddSt.put (h : AddSt w g rb id wx rb1 n1 L bs1) {bs2 : List Int} (hr : RawMsg wy g rb1 L id (.slice none 0 0) n1 bs2) (hl : bs2.length = bs1.length) (k : Kept [rb1] wx wy) : AddSt w g rb id wy rb1 n1 L bs2 :=
  ⟨hr, h.own, h.kept1 k (fun s hs => .inr (by simpa using hs)), by rw [hl]; exact h.cap⟩
end

theorem set_at4 (h r : List Int) (a b c d : Int) (hh : h.length = 20) (hr : 4 ≤ r.length) : ((((h ++ r).set 20 a).set (20 + 1) b).set 22 c).set (22 + 1) d = h ++ [a, b, c, d] ++ r.drop 4 := by
  match r, hr with
  | x0 :: x1 :: x2 :: x3 :: r', _ =>
    rw [List.set_append_right 20 _ (by omega), List.set_append_right (20 + 1) _ (by omega), List.set_append_right 22 _ (by omega), List.set_append_right (22 + 1) _ (by omega), hh]
    simp
theorem set_midz (L X : List Int) (od i : Nat) (v : Int) (hX : X.length = i) (h : od + i < L.length) :
    (L.take od ++ X ++ L.drop (od + i)).set (od + i) v = L.take od ++ (X ++ [v]) ++ L.drop (od + (i + 1)) := by
  have h1 : (L.take od ++ X).length = od + i := by simp [hX]; omega
  rw [List.set_append_right (od + i) v (by omega), h1, Nat.sub_self]
  rw [List.drop_eq_getElem_cons h, List.set_cons_zero]
  simp [Nat.add_assoc]
theorem take_mid24 (H R v X : List Int) (l : Nat) (hH : H.length = 24) (hv : v.length = l) : ((H ++ R).take 24 ++ v ++ X).take (24 + l) = H ++ v := by
  have e : (H ++ R).take 24 = H := by rw [List.take_append_of_le_length (by omega), List.take_of_length_le (by omega)]
  rw [e, List.take_append_of_le_length (by simp; omega), List.take_of_length_le (by simp; omega)]
theorem add_bytes (bs1 : List Int) (t : Int) (l : Nat) (v : List Int) (hb : 24 + l ≤ bs1.length) (hv : v.length = l) (ht : 0 ≤ t ∧ t ≤ 255) :
    ((((((bs1.set 20 (t / 256)).set (20 + 1) (t % 256)).set 22 ((l : Int) / 256)).set (22 + 1) ((l : Int) % 256)).take 24 ++ v ++ ((((bs1.set 20 (t / 256)).set (20 + 1) (t % 256)).set 22 ((l : Int) / 256)).set (22 + 1) ((l : Int) % 256)).drop (24 + v.length))).take (24 + l) = bs1.take 20 ++ [t / 256, t % 256, (l : Int) / 256, (l : Int) % 256] ++ v := by
  have e := set_at4 (bs1.take 20) (bs1.drop 20) (t / 256) (t % 256) ((l : Int) / 256) ((l : Int) % 256) (by simp; omega) (by simp; omega)
  rw [List.take_append_drop] at e
  rw [e]
  exact take_mid24 _ _ v _ l (by simp; omega) hv

/-- '(AttrType).Value' -/
theorem atValue_any (t : Int) (w : World) :
    Calls Tryz.prog 92 #[.int .u16 t] w fun e w' => e = .returned (.int .u16 t) ∧ w = w' := by
  go_enter Tryz.func92, Tryz.ntmps92
  go_wp2
  go_ret
  exact ⟨rfl, rfl⟩

set_option maxRecDepth 100000 in
set_option maxHeartbeats 4000000 in
theorem mAdd_any (g rb : Nat) (id bs : List Int) (t : Int) (A : Option Addr) (l c : Nat) (v : List Int) (w : World) (h : RawMsg w g rb 0 id (.slice none 0 0) 20 bs) (hb : bs.take 20 = hdrB 0 id) (hcap : 120 ≤ bs.length) (ht : 0 ≤ t ∧ t ≤ 255) (hv : v.length = l) (hl : l ≤ 1000) (hR : Rd w A v) (hA : ∀ a, A = some a → a.block ≠ g ∧ a.block ≠ rb) :
    Calls Tryz.prog 91 #[.pointer (some ⟨g, 0, none⟩), .int .u16 t, .slice A l c] w fun e w' => e = .returned (.tuple #[]) ∧ ∃ rb' bs' at', RawMsg w' g rb' (4 + (pad4 l : Int)) id at' (24 + pad4 l) bs' ∧ bs'.take (24 + pad4 l) = hdrB (4 + (pad4 l : Int)) id ++ attrB t v ∧ (rb' = rb ∨ w.heap.size ≤ rb') ∧ Kept [g, rb] w w' := by
  have HS0 : Hid (AddSt w g rb id w rb 20 0 bs) := Lib.hid ⟨h, .inl rfl, Kept.refl _ _, hcap⟩
  have c2 := h.1.facts.2.2.1
  have HV := Lib.hid (And.intro hv (And.intro hR hA))
  have HB := Lib.hid hb
  clear h hb hv hR hA
  go_enter Tryz.func91, Tryz.ntmps91
  go_upto_region 4 with (go_at_call 27; refine (mgrow_any g rb 0 id _ 20 bs _ HS0.out.raw _ (24 + l) (by omega) (by omega)).mono ?_; rintro e w1 ⟨rfl, rb1, n1, bs1, hr1, hn1, ht1, hl1, ho1, hk1⟩; have HS1 := Lib.hid (HS0.out.grow hr1 hl1 ho1 hk1); have HT1 := Lib.hid (ht1.trans HB.out); have HN1 := Lib.hid hr1.2.2.1; clear hr1 ht1 hl1 ho1 hk1)
  have c16 := HS1.out.raw.raw
  have f16 := HS1.out.raw.1.free 16
  have c2' := HS1.out.raw.1.facts.2.2.1
  have f2' := HS1.out.raw.1.free 2
  have hcl : 120 ≤ bs1.length := HS1.out.cap
  have hcl2 : 24 + l ≤ bs1.length := by have := HN1.out; omega
  have HC1 := Lib.hid (And.intro hcl hcl2)
  generalize hcc : bs1.length = c1 at c16 hcl hcl2
  have HCC := Lib.hid hcc
  clear hcc c2
  have q4 := fun W => sl_to rb1 0 n1 c1 (24 + l) (20 + (4 + (l : Int))) (by omega) hcl2 W
  obtain ⟨c3, hc3, hc3l, q6⟩ : ∃ c3, 100 ≤ c3 ∧ 4 + l ≤ c3 ∧ ∀ W, (Instr.slice 24 (.slice (some ⟨rb1, 0, none⟩) (24 + l) c1) (some (.int .i64 20)) (some (.int .i64 (20 + (4 + (l : Int))))) none).run Tryz.prog W = .ok (.slice (some ⟨rb1, 20, none⟩) (4 + l) c3) W :=
    ⟨c1 - 20, by omega, by omega, fun W => sl_mid rb1 0 (24 + l) c1 20 (24 + l) (4 + l) 20 _ (by omega) (by omega) (by omega) hcl2 (by omega) W⟩
  obtain ⟨c4, q7⟩ : ∃ c4, ∀ W, (Instr.slice 24 (.slice (some ⟨rb1, 20, none⟩) (4 + l) c3) (some (.int .i64 4)) none none).run Tryz.prog W = .ok (.slice (some ⟨rb1, 24, none⟩) l c4) W :=
    ⟨c3 - 4, fun W => sl_from rb1 20 (4 + l) c3 4 l 4 (by omega) (by omega) (by omega) (by omega) W⟩
  have hw32 : IntKind.u32.wrap (4 + (l : Int)) = 4 + l := wraps_u32 _ (by omega) (by omega)
  have hw16 : IntKind.u16.wrap (l : Int) = l := wraps_u16 _ (by omega) (by omega)
  go_upto_region 9 with fail
  obtain ⟨W2, hW2⟩ : ∃ W2, W2 = ((w1.setCell ⟨g, 16, none⟩ (.slice (some ⟨rb1, 0, none⟩) (24 + l) c1)).setCell ⟨g, 2, none⟩ (.int .u32 (4 + (l : Int)))).alloc (.cells #[.int .u16 t, .int .u16 l, .slice (some ⟨rb1, 24, none⟩) l c4] 105) := ⟨_, rfl⟩
  have hs2 : AddSt w g rb id W2 rb1 (24 + l) (4 + (l : Int)) bs1 := by
    rw [hW2, ← HCC.out]
    exact ((HS1.out.len (24 + l) HC1.out.2).lng _).alloc _
  have ha2 : W2.heap[w1.heap.size]? = some (.cells #[.int .u16 t, .int .u16 l, .slice (some ⟨rb1, 24, none⟩) l c4] 105 (0, 0)) := by
    rw [hW2]; exact heap_at _ _ _ (by simp)
  rw [← hW2]
  have haw : w.heap.size ≤ w1.heap.size := HS1.out.kept.size
  have HS2 := Lib.hid hs2
  have HA2 := Lib.hid ha2
  have hra : rb1 ≠ w1.heap.size := blk_ne hs2.raw.2.1 ha2 (by decide)
  clear hW2 hs2 ha2 HS1 HN1 c16 f16 c2' f2' q4 q6 q7 hw32 hw16
  generalize w1.heap.size = ab at *
  have q9 := fun W => sl_mid rb1 20 (4 + l) c3 0 2 2 0 2 rfl rfl rfl (by omega) (by omega) W
  refine wp_region_held_drew (S := fun w' => w'.cell? ⟨ab, 0, none⟩ = some (.int .u16 t)) (by kernel_rfl) ((blk_cell HA2.out 0).trans rfl) (fun hHeld => ?_)
  refine wpAnyH_take (i := 0) (v := ?_) rfl (by kernel_rfl) (by kernel_rfl) (by kernel_rfl) (fun _ _ _ h => h) (Or.inl ⟨by rfl, ?_⟩) hHeld ?_
  rotate_left
  · (intro w' hSw; (try dsimp only at hSw); go_simp <;> with_reducible rfl)
  simp only [List.getElem_toArray, List.getElem_cons_succ, List.getElem_cons_zero, Act.put, List.setIfInBounds_toArray, List.set_cons_zero, List.set_cons_succ]
  refine wpAnyH_take (i := 1) (v := ?_) rfl (by kernel_rfl) (by kernel_rfl) (by kernel_rfl) (fun _ _ _ h => h) (Or.inl ⟨by rfl, ?_⟩) hHeld ?_
  rotate_left
  · (intro w' hSw; (try dsimp only at hSw); go_simp <;> with_reducible rfl)
  simp only [List.getElem_toArray, List.getElem_cons_succ, List.getElem_cons_zero, Act.put, List.setIfInBounds_toArray, List.set_cons_zero, List.set_cons_succ]
  refine wpAnyH_take (i := 2) (v := ?_) rfl (by kernel_rfl) (by kernel_rfl) (by kernel_rfl) (fun _ _ _ h => h) (Or.inl ⟨by rfl, ?_⟩) hHeld ?_
  rotate_left
  · (intro w' hSw; (try dsimp only at hSw); go_simp <;> with_reducible rfl)
  simp only [List.getElem_toArray, List.getElem_cons_succ, List.getElem_cons_zero, Act.put, List.setIfInBounds_toArray, List.set_cons_zero, List.set_cons_succ]
  refine wpAnyH_take (i := 3) (v := ?_) rfl (by kernel_rfl) (by kernel_rfl) (by kernel_rfl) (fun _ _ _ h => h) (Or.inl ⟨by rfl, ?_⟩) hHeld ?_
  rotate_left
  · (intro w' hSw; (try dsimp only at hSw); go_simp <;> with_reducible rfl)
  simp only [List.getElem_toArray, List.getElem_cons_succ, List.getElem_cons_zero, Act.put, List.setIfInBounds_toArray, List.set_cons_zero, List.set_cons_succ]
  refine wpAnyH_ready (rs := [4]) (by kernel_rfl) (by simp) ?_
  refine AllReadyH.cons rfl (fun K hK => ?_) AllReadyH.nil
  go_simp
  go_at_call 92
  refine (atValue_any t _).mono ?_
  rintro e w' ⟨rfl, rfl⟩
  refine hK.out _ _ hHeld (fun hHeld => ?_)
  clear hK K
  refine wpAnyH_ready (rs := [5]) (by kernel_rfl) (by simp) ?_
  refine AllReadyH.cons rfl (fun K hK => ?_) AllReadyH.nil
  go_simp
  go_at_call 49
  refine (sput16_raw g rb1 _ id _ _ bs1 _ HS2.out.drew.raw 20 2 _ t (by omega) (by have := HC1.out; omega) (by omega)).mono ?_
  rintro e w3 ⟨rfl, h3, hk3⟩
  have hs3 := HS2.out.drew.put h3 (by simp only [List.length_set]) hk3
  have ha3 := blk_kept (w := W2.drew) HA2.out hk3 (by simpa using fun e => hra e.symm)
  refine hK.out _ _ ((blk_cell ha3 0).trans rfl) (fun hHeld => ?_)
  clear hK K hHeld
  refine wpAnyH_done (by kernel_rfl) ?_ _
  have HS3 := Lib.hid hs3
  have HA3 := Lib.hid ha3
  clear hs3 ha3 HS2 HA2 h3 hk3 q9
  go_upto_region 10 with fail
  have q10 := fun W => sl_mid rb1 20 (4 + l) c3 2 4 2 2 4 rfl rfl rfl (by omega) (by omega) W
  refine wp_region_held_drew (S := fun w' => w'.cell? ⟨ab, 1, none⟩ = some (.int .u16 l)) (by kernel_rfl) ((blk_cell HA3.out 1).trans rfl) (fun hHeld => ?_)
  refine wpAnyH_take (i := 0) (v := ?_) rfl (by kernel_rfl) (by kernel_rfl) (by kernel_rfl) (fun _ _ _ h => h) (Or.inl ⟨by rfl, ?_⟩) hHeld ?_
  rotate_left
  · (intro w' hSw; (try dsimp only at hSw); go_simp <;> with_reducible rfl)
  simp only [List.getElem_toArray, List.getElem_cons_succ, List.getElem_cons_zero, Act.put, List.setIfInBounds_toArray, List.set_cons_zero, List.set_cons_succ]
  refine wpAnyH_take (i := 1) (v := ?_) rfl (by kernel_rfl) (by kernel_rfl) (by kernel_rfl) (fun _ _ _ h => h) (Or.inl ⟨by rfl, ?_⟩) hHeld ?_
  rotate_left
  · (intro w' hSw; (try dsimp only at hSw); go_simp <;> with_reducible rfl)
  simp only [List.getElem_toArray, List.getElem_cons_succ, List.getElem_cons_zero, Act.put, List.setIfInBounds_toArray, List.set_cons_zero, List.set_cons_succ]
  refine wpAnyH_take (i := 2) (v := ?_) rfl (by kernel_rfl) (by kernel_rfl) (by kernel_rfl) (fun _ _ _ h => h) (Or.inl ⟨by rfl, ?_⟩) hHeld ?_
  rotate_left
  · (intro w' hSw; (try dsimp only at hSw); go_simp <;> with_reducible rfl)
  simp only [List.getElem_toArray, List.getElem_cons_succ, List.getElem_cons_zero, Act.put, List.setIfInBounds_toArray, List.set_cons_zero, List.set_cons_succ]
  refine wpAnyH_take (i := 3) (v := ?_) rfl (by kernel_rfl) (by kernel_rfl) (by kernel_rfl) (fun _ _ _ h => h) (Or.inl ⟨by rfl, ?_⟩) hHeld ?_
  rotate_left
  · (intro w' hSw; (try dsimp only at hSw); go_simp <;> with_reducible rfl)
  simp only [List.getElem_toArray, List.getElem_cons_succ, List.getElem_cons_zero, Act.put, List.setIfInBounds_toArray, List.set_cons_zero, List.set_cons_succ]
  refine wpAnyH_ready (rs := [4]) (by kernel_rfl) (by simp) ?_
  refine AllReadyH.cons rfl (fun K hK => ?_) AllReadyH.nil
  go_simp
  go_at_call 49
  refine (sput16_raw g rb1 _ id _ _ _ _ HS3.out.drew.raw 22 2 _ l (by omega) (by have := HC1.out; simp only [List.length_set]; omega) (by omega)).mono ?_
  rintro e w4 ⟨rfl, h4, hk4⟩
  have hs4 := HS3.out.drew.put h4 (by simp only [List.length_set]) hk4
  have ha4 := blk_kept (w := w3.drew) HA3.out hk4 (by simpa using fun e => hra e.symm)
  refine hK.out _ _ ((blk_cell ha4 1).trans rfl) (fun hHeld => ?_)
  clear hK K hHeld
  refine wpAnyH_done (by kernel_rfl) ?_ _
  have HS4 := Lib.hid hs4
  have HA4 := Lib.hid ha4
  clear hs4 ha4 HS3 HA3 h4 hk4 q10
  go_upto_region 12 with ((refine wpList_copy_raw (o := ⟨some 75, _, _, _, _, _⟩) rfl (.tmp 73) (.tmp 74) rfl g rb1 _ id _ _ _ HS4.out.raw 24 l c4 c A v rfl rfl HV.out.1 (HS4.out.rd HV.out.2.1 HV.out.2.2) ?hoff ?_); rotate_left; intro w5 h5 hk5; have hs5 := HS4.out.put h5 (by have := HC1.out; have := HV.out.1; simp; omega) hk5; have ha5 := blk_kept HA4.out hk5 (by simpa using fun e => hra e.symm); have HS5 := Lib.hid hs5; have HA5 := Lib.hid ha5; clear h5 hk5 hs5 ha5; rotate_right)
  case hoff => have := HC1.out; simp only [List.length_set]; omega
  simp only [Act.put, List.setIfInBounds_toArray, List.set_cons_zero, List.set_cons_succ]
  have hby := add_bytes bs1 t l v HC1.out.2 HV.out.1 ht
  rw [HT1.out] at hby
  generalize (((bs1.set 20 (t / 256)).set (20 + 1) (t % 256)).set 22 ((l : Int) / 256)).set (22 + 1) ((l : Int) % 256) = b4 at *
  generalize hb5 : b4.take 24 ++ v ++ b4.drop (24 + v.length) = b5 at *
  have HBY := Lib.hid hby
  clear hby hb5 HS4 HA4 HT1
  have a1 : w5.cell? ⟨ab, 1, none⟩ = some (.int .u16 l) := (blk_cell HA5.out 1).trans rfl
  go_upto_if 79 with fail
  have hga : g ≠ ab := blk_ne HS5.out.raw.1.2 HA5.out (by decide)
  go_cut [] (fun wx => ∃ rb2 bs2, Hid (AddSt w g rb id wx rb2 (24 + pad4 l) (4 + (pad4 l : Int)) bs2) ∧ Hid (bs2.take (24 + pad4 l) = hdrB 0 id ++ attrB t v) ∧ Hid (wx.heap[ab]? = some (.cells #[.int .u16 t, .int .u16 l, .slice (some ⟨rb1, 24, none⟩) l c4] 105 (0, 0))))
  case first =>
    by_cases hm : l % 4 = 0
    · have t0 : ((l : Int) % 4 != 0) = false := by rw [bne_eq_false_iff_eq]; omega
      have hp : pad4 l = l := by unfold pad4; omega
      have hp4 : pad4 (4 + v.length) - (4 + v.length) = 0 := by have := HV.out.1; unfold pad4; omega
      have HP := Lib.hid hp
      have HP4 := Lib.hid hp4
      clear hp hp4
      go_wp2_with fail
      go_meet
      refine ⟨rb1, b5, ?_, ?_, HA5⟩
      · rw [HP.out]; exact HS5
      · refine Lib.hid ?_
        rw [HP.out, HBY.out]
        unfold attrB
        rw [HP4.out, HV.out.1]
        have e1 : t / 256 % 256 = t / 256 := by omega
        have e2 : (l : Int) / 256 % 256 = (l : Int) / 256 := by omega
        simp [put2, e1, e2]
    · have t0 : ((l : Int) % 4 != 0) = true := by rw [bne_iff_ne]; omega
      have hq1 : l < pad4 l := by unfold pad4; omega
      have hq2 : pad4 l ≤ l + 3 := by unfold pad4; omega
      have hp4 : pad4 (4 + v.length) - (4 + v.length) = pad4 l - l := by have := HV.out.1; unfold pad4; omega
      obtain ⟨d, hq⟩ : ∃ d, pad4 l = l + d := ⟨pad4 l - l, by omega⟩
      rw [hq] at hp4 hq1 hq2
      rw [Nat.add_sub_cancel_left] at hp4
      have HPQ := Lib.hid hq
      have HP4 := Lib.hid hp4
      clear hp4 hq
      have s1 : (l : Int) + d - l = d := by omega
      have s2 : (20 : Int) + (4 + l) + d - d = 20 + (4 + l) := by omega
      go_upto_region 15 with (go_at_call 57; refine (spad_any _ l _ rfl (by omega)).mono ?_; rintro e w' ⟨rfl, rfl⟩; rw [HPQ.out])
      go_upto_region 16 with (go_at_call 27; refine (mgrow_any g rb1 _ id _ _ b5 _ HS5.out.raw _ (24 + l + d) (by omega) (by omega)).mono ?_; rintro e w6 ⟨rfl, rb2, n2, b6, hr6, hn6, ht6, hl6, ho6, hk6⟩; have HS6 := Lib.hid (HS5.out.grow hr6 hl6 ho6 hk6); have HA6 := Lib.hid (blk_kept HA5.out hk6 (by simpa using fun e => hga e.symm)); have HT6 := Lib.hid (ht6.trans HBY.out); have HN6 := Lib.hid hr6.2.2.1; clear hr6 ht6 hl6 ho6 hk6)
      have c16 := HS6.out.raw.raw
      have f16 := HS6.out.raw.1.free 16
      have c2' := HS6.out.raw.1.facts.2.2.1
      have f2' := HS6.out.raw.1.free 2
      have hcl6 : 24 + l + d ≤ b6.length := by have := HN6.out; omega
      have HC6 := Lib.hid hcl6
      generalize hcc : b6.length = c6 at c16 hcl6
      have HCC6 := Lib.hid hcc
      clear hcc
      obtain ⟨c7, hc7, q16⟩ : ∃ c7, d ≤ c7 ∧ ∀ W, (Instr.slice 24 (.slice (some ⟨rb2, 0, none⟩) n2 c6) (some (.int .i64 (20 + (4 + (l : Int))))) (some (.int .i64 (20 + (4 + (l : Int)) + d))) none).run Tryz.prog W = .ok (.slice (some ⟨rb2, 24 + l, none⟩) d c7) W :=
        ⟨c6 - (24 + l), by omega, fun W => by
          have h := sl_mid rb2 0 n2 c6 (24 + l) (24 + l + d) d _ _ (show (20 : Int) + (4 + l) = ((24 + l : Nat) : Int) by omega) (show (20 : Int) + (4 + l) + d = ((24 + l + d : Nat) : Int) by omega) rfl hcl6 (by omega) W
          rwa [Nat.zero_add] at h⟩
      go_upto_region 18 with fail
      clear c16 f16 c2' f2' q16 a1
      have hN6 := HN6.out
      have HN6' := Lib.hid hN6
      clear hN6
      go_loopg [103] d (fun kq v103 wr => ∃ i : Nat, kq + i = d ∧ v103 = .int .i64 i ∧ Hid (AddSt w g rb id wr rb2 n2 (4 + (l : Int)) (b6.take (24 + l) ++ List.replicate i 0 ++ b6.drop (24 + l + i))) ∧ Hid (wr.heap[ab]? = some (.cells #[.int .u16 t, .int .u16 l, .slice (some ⟨rb1, 24, none⟩) l c4] 105 (0, 0))))
      case atStart => exact ⟨0, rfl, rfl, Lib.hid (by simpa using HS6.out), HA6⟩
      case round =>
        obtain ⟨i, hi, rfl, hs, ha⟩ := hrel
        clear HS6 HA6
        have hzl : (b6.take (24 + l) ++ List.replicate i 0 ++ b6.drop (24 + l + i)).length = c6 := by
          have := HC6.out; have := HCC6.out
          simp only [List.length_append, List.length_take, List.length_replicate, List.length_drop]; omega
        by_cases hlt : i < d
        · have t0 : decide ((i : Int) < d) = true := decide_eq_true (by omega)
          have t1 : (i : Int) < d := by omega
          have hz := hs.out.raw.cell (24 + l + i) (by rw [hzl]; omega)
          have fz := hs.out.raw.free (24 + l + i)
          have hzs := set_midz b6 (List.replicate i 0) (24 + l) i 0 (by simp) (by have := HC6.out; omega)
          have hp := hs.out.raw.put (24 + l + i) 0
          have hs' := hs.out.put hp (by rw [List.length_set]) ((Kept.refl [rb2] wr).setCell (.inl (by simp)) _)
          rw [hzs, ← List.replicate_succ'] at hs'
          have hne : ab ≠ rb2 := fun e => blk_ne hs.out.raw.2.1 ha.out (by decide) e.symm
          have HS' := Lib.hid hs'
          have HA' := Lib.hid (blk_far (p := ⟨rb2, 24 + l + i, none⟩) ha.out (by simpa using hne) (.int .u8 0))
          clear hzl hp hs' hzs hs ha
          generalize List.getD _ (24 + l + i) 0 = zz at hz
          go_wp2_with fail
          go_roundg (gk - 1)
          case measure => omega
          case rel => exact ⟨i + 1, by omega, by simp, HS', HA'⟩
        · obtain rfl : i = d := by omega
          have t0 : decide ((i : Int) < i) = false := decide_eq_false (by omega)
          have c16 := hs.out.raw.raw
          have f16 := hs.out.raw.1.free 16
          have c2' := hs.out.raw.1.facts.2.2.1
          have f2' := hs.out.raw.1.free 2
          have hs1 := hs.out.len (24 + l + i) (by rw [hzl]; exact hcl6)
          rw [hzl] at c16 hs1
          have hs2 := hs1.lng (4 + (l : Int) + i)
          have hgab : ab ≠ g := fun e => hga e.symm
          have HA2 := Lib.hid (blk_far (p := ⟨g, 2, none⟩) (blk_far (p := ⟨g, 16, none⟩) ha.out (by simpa using hgab) (.slice (some ⟨rb2, 0, none⟩) (24 + l + i) c6)) (by simpa using hgab) (.int .u32 (4 + (l : Int) + i)))
          have HS2 := Lib.hid hs2
          have q22 := fun W => sl_to rb2 0 n2 c6 (24 + l + i) (20 + (4 + (l : Int)) + i) (by omega) hcl6 W
          have hwd : IntKind.u32.wrap (i : Int) = i := wraps_u32 _ (by omega) (by omega)
          have hwe : IntKind.u32.wrap (4 + (l : Int) + i) = 4 + l + i := wraps_u32 _ (by omega) (by omega)
          clear hzl hs1 hs2 hs ha
          go_wp2_with fail
          go_meet
          refine ⟨rb2, b6.take (24 + l) ++ List.replicate i 0 ++ b6.drop (24 + l + i), ?_, ?_, HA2⟩
          · rw [HPQ.out, show 24 + (l + i) = 24 + l + i by omega, show (4 : Int) + ((l + i : Nat) : Int) = 4 + (l : Int) + i by omega]
            exact HS2
          · refine Lib.hid ?_
            have hTl : (b6.take (24 + l) ++ List.replicate i 0).length = 24 + (l + i) := by
              have := HC6.out
              simp only [List.length_append, List.length_take, List.length_replicate]; omega
            rw [HPQ.out, List.take_append_of_le_length (by omega), List.take_of_length_le (by omega), HT6.out]
            unfold attrB
            rw [HP4.out, HV.out.1]
            have e1 : t / 256 % 256 = t / 256 := by omega
            have e2 : (l : Int) / 256 % 256 = (l : Int) / 256 := by omega
            simp [put2, e1, e2]
  case rest =>
  clear HS5 HA5 HBY a1
  obtain ⟨rb2, bs2, hs, hT, ha⟩ := hcut
  have c15 := hs.out.raw.1.facts.2.2.2.1
  have hga' : ¬ g = wc.heap.size := by have := hs.out.raw.lt; omega
  go_upto_region 24 with fail
  refine wp_region_held_drew (S := fun w' => w'.cell? ⟨ab, 0, none⟩ = some (.int .u16 t) ∧ w'.cell? ⟨ab, 1, none⟩ = some (.int .u16 l) ∧ w'.cell? ⟨ab, 2, none⟩ = some (.slice (some ⟨rb1, 24, none⟩) l c4)) (by kernel_rfl) ⟨(blk_cell ha.out 0).trans rfl, (blk_cell ha.out 1).trans rfl, (blk_cell ha.out 2).trans rfl⟩ (fun hHeld => ?_)
  refine wpAnyH_take (i := 0) (v := ?_) rfl (by kernel_rfl) (by kernel_rfl) (by kernel_rfl) (fun _ _ _ h => h) (Or.inl ⟨by rfl, ?_⟩) hHeld ?_
  rotate_left
  · (intro w' hSw; (try dsimp only at hSw); go_simp <;> with_reducible rfl)
  simp only [List.getElem_toArray, List.getElem_cons_succ, List.getElem_cons_zero, Act.put, List.setIfInBounds_toArray, List.set_cons_zero, List.set_cons_succ]
  refine wpAnyH_take (i := 1) (v := ?_) rfl (by kernel_rfl) (by kernel_rfl) (by kernel_rfl) (fun _ _ _ h => h) (Or.inl ⟨by rfl, ?_⟩) hHeld ?_
  rotate_left
  · (intro w' hSw; (try dsimp only at hSw); go_simp <;> with_reducible rfl)
  simp only [List.getElem_toArray, List.getElem_cons_succ, List.getElem_cons_zero, Act.put, List.setIfInBounds_toArray, List.set_cons_zero, List.set_cons_succ]
  refine wpAnyH_take (i := 2) (v := ?_) rfl (by kernel_rfl) (by kernel_rfl) (by kernel_rfl) (fun _ _ _ h => h) (Or.inl ⟨by rfl, ?_⟩) hHeld ?_
  rotate_left
  · (intro w' hSw; (try dsimp only at hSw); go_simp <;> with_reducible rfl)
  simp only [List.getElem_toArray, List.getElem_cons_succ, List.getElem_cons_zero, Act.put, List.setIfInBounds_toArray, List.set_cons_zero, List.set_cons_succ]
  refine wpAnyH_take (i := 3) (v := ?_) rfl (by kernel_rfl) (by kernel_rfl) (by kernel_rfl) (fun _ _ _ h => h) (Or.inl ⟨by rfl, ?_⟩) hHeld ?_
  rotate_left
  · (intro w' hSw; (try dsimp only at hSw); go_simp <;> with_reducible rfl)
  simp only [List.getElem_toArray, List.getElem_cons_succ, List.getElem_cons_zero, Act.put, List.setIfInBounds_toArray, List.set_cons_zero, List.set_cons_succ]
  refine wpAnyH_take (i := 5) (v := ?_) rfl (by kernel_rfl) (by kernel_rfl) (by kernel_rfl) (fun _ _ _ h => h) (Or.inl ⟨by rfl, ?_⟩) hHeld ?_
  rotate_left
  · (intro w' hSw; (try dsimp only at hSw); go_simp <;> with_reducible rfl)
  simp only [List.getElem_toArray, List.getElem_cons_succ, List.getElem_cons_zero, Act.put, List.setIfInBounds_toArray, List.set_cons_zero, List.set_cons_succ]
  refine wpAnyH_ready (rs := [4, 6]) (by kernel_rfl) (by simp) ?_
  refine AllReadyH.cons rfl (fun K hK => ?_) (AllReadyH.cons rfl (fun K hK => ?_) AllReadyH.nil)
  · go_simp
    refine hK.out _ _ ⟨(blk_cell ha.out 0).trans rfl, (blk_cell ha.out 1).trans rfl, (blk_cell ha.out 2).trans rfl⟩ (fun hHeld => ?_)
    clear hK K
    refine wpAnyH_ready (rs := [6]) (by kernel_rfl) (by simp) ?_
    refine AllReadyH.cons rfl (fun K hK => ?_) AllReadyH.nil
    go_simp
    obtain ⟨W7, hW7⟩ : ∃ W7, W7 = (wc.alloc (.cells #[.int .u16 t, .int .u16 l, .slice (some ⟨rb1, 24, none⟩) l c4] 105)).drew := ⟨_, rfl⟩
    have hB7 : Below wc.heap.size wc W7 := by rw [hW7]; exact (Kept.toBelow (((Kept.refl [] wc).alloc _).drew))
    have hb7 : W7.heap[wc.heap.size]? = some (.cells #[.int .u16 t, .int .u16 l, .slice (some ⟨rb1, 24, none⟩) l c4] 105 (0, 0)) := by rw [hW7]; exact heap_alloc_new wc _
    have hg7 := hs.out.raw.below hB7
    have hb7' := blk_below ha.out hB7
    have c15' := hg7.1.facts.2.2.2.1
    rw [← hW7]
    clear hW7
    refine hK.out _ _ ⟨(blk_cell hb7' 0).trans rfl, (blk_cell hb7' 1).trans rfl, (blk_cell hb7' 2).trans rfl⟩ (fun hHeld => ?_)
    clear hK K
    refine wpAnyH_ready (rs := [7]) (by kernel_rfl) (by simp) ?_
    refine AllReadyH.cons rfl (fun K hK => ?_) AllReadyH.nil
    refine step_app_raw 135 rfl W7.heap.size W7 rfl (.tmp 132) (.tmp 134) rfl (.slice none 0 0) 0 wc.heap.size [] rfl rfl (.int .u16 t) (.int .u16 l) (.slice (some ⟨rb1, 24, none⟩) l c4) (World.ownsRow_nil _ _ _ _) ((blk_cell hb7 0).trans rfl) ((blk_cell hb7 1).trans rfl) ((blk_cell hb7 2).trans rfl) rfl rfl rfl (Nat.le_refl _) (by omega) ?_
    intro v8 w8 hown8 hgr8
    simp only [Act.put, List.setIfInBounds_toArray, List.set_cons_zero, List.set_cons_succ]
    obtain ⟨ab2, cap2, rfl, hcap2, hab1, hab2, e0, e1, e2⟩ := raw_cells hown8
    have hk8 : Kept [] W7 w8 := Kept.of_grown hgr8 (fun b e => by cases e)
    have hB8 : Below wc.heap.size wc w8 := below_then hB7 hk8.toBelow
    have hg8 := hs.out.raw.below hB8
    have hb8 := blk_below ha.out hB8
    have c15 := hg8.1.facts.2.2.2.1
    have f15 := hg8.1.free 15
    refine hK.out _ _ ⟨(blk_cell hb8 0).trans rfl, (blk_cell hb8 1).trans rfl, (blk_cell hb8 2).trans rfl⟩ (fun hHeld => ?_)
    clear hK K
    refine wpAnyH_take (i := 8) (v := ?_) rfl (by kernel_rfl) (by kernel_rfl) (by kernel_rfl) (fun _ _ _ h => h) (Or.inl ⟨by rfl, ?_⟩) hHeld ?_
    rotate_left
    · (intro w' hSw; (try dsimp only at hSw); go_simp <;> with_reducible rfl)
    simp only [List.getElem_toArray, List.getElem_cons_succ, List.getElem_cons_zero, Act.put, List.setIfInBounds_toArray, List.set_cons_zero, List.set_cons_succ]
    refine wpAnyH_take (i := 9) (v := ?_) rfl (by kernel_rfl) (by kernel_rfl) (by kernel_rfl) (fun _ _ _ h => h) (Or.inl ⟨by rfl, ?_⟩) hHeld ?_
    rotate_left
    · (intro w' hSw; (try dsimp only at hSw); go_simp <;> with_reducible rfl)
    simp only [List.getElem_toArray, List.getElem_cons_succ, List.getElem_cons_zero, Act.put, List.setIfInBounds_toArray, List.set_cons_zero, List.set_cons_succ]
    refine wpAnyH_ready (rs := [10]) (by kernel_rfl) (by simp) ?_
    refine AllReadyH.cons rfl (fun K hK => ?_) AllReadyH.nil
    go_simp
    have hb9 := blk_far (p := ⟨g, 15, none⟩) hb8 (fun e => hga e.symm) (.slice (some ⟨ab2, 0, none⟩) 1 cap2)
    refine hK.out _ _ ⟨(blk_cell hb9 0).trans rfl, (blk_cell hb9 1).trans rfl, (blk_cell hb9 2).trans rfl⟩ (fun hHeld => ?_)
    clear hK K hHeld
    refine wpAnyH_done (by kernel_rfl) ?_ _
    have hr9 : RawMsg (w8.setCell ⟨g, 15, none⟩ (.slice (some ⟨ab2, 0, none⟩) 1 cap2)) g rb2 (4 + (pad4 l : Int)) id (.slice (some ⟨ab2, 0, none⟩) 1 cap2) (24 + pad4 l) bs2 :=
      ⟨hg8.1.set15 _, blk_far hg8.2.1 hg8.2.2.2 _, hg8.2.2⟩
    have hk9 : Kept [g, rb] w (w8.setCell ⟨g, 15, none⟩ (.slice (some ⟨ab2, 0, none⟩) 1 cap2)) := (hs.out.kept.then_below (hB8.mono hs.out.kept.size)).setCell (.inl (by simp)) _
    have HF := Lib.hid (And.intro hr9 (And.intro hk9 hs.out.own))
    clear hb9 hb8 hg8 hB8 c15 f15 e0 e1 e2 hown8 hgr8 hk8 hb7 hb7' hg7 hB7 c15' hr9 hk9 hs ha
    have hpq : pad4 l ≤ l + 3 := by unfold pad4; omega
    go_wp2_with fail
    refine (mWL_any g rb2 _ id _ _ bs2 _ HF.out.1 (by omega) (by omega)).mono ?_
    rintro e wz ⟨rfl, hz, hkz⟩
    have HZ := Lib.hid (And.intro hz hkz)
    clear hz hkz
    go_wp2_with fail
    go_end0
    refine ⟨rfl, rb2, _, _, HZ.out.1, ?_, HF.out.2.2, HF.out.2.1.trans HZ.out.2 ?_⟩
    · rw [List.take_set, List.take_set, hT.out]; rfl
    · intro x hx
      obtain rfl : x = rb2 := by simpa using hx
      rcases HF.out.2.2 with rfl | hh
      · exact .inl (by simp)
      · exact .inr hh
  · go_simp
    obtain ⟨W7, hW7⟩ : ∃ W7, W7 = (wc.alloc (.cells #[.int .u16 t, .int .u16 l, .slice (some ⟨rb1, 24, none⟩) l c4] 105)).drew := ⟨_, rfl⟩
    have hB7 : Below wc.heap.size wc W7 := by rw [hW7]; exact (Kept.toBelow (((Kept.refl [] wc).alloc _).drew))
    have hb7 : W7.heap[wc.heap.size]? = some (.cells #[.int .u16 t, .int .u16 l, .slice (some ⟨rb1, 24, none⟩) l c4] 105 (0, 0)) := by rw [hW7]; exact heap_alloc_new wc _
    have hg7 := hs.out.raw.below hB7
    have hb7' := blk_below ha.out hB7
    have c15' := hg7.1.facts.2.2.2.1
    rw [← hW7]
    clear hW7
    refine hK.out _ _ ⟨(blk_cell hb7' 0).trans rfl, (blk_cell hb7' 1).trans rfl, (blk_cell hb7' 2).trans rfl⟩ (fun hHeld => ?_)
    clear hK K
    refine wpAnyH_ready (rs := [4]) (by kernel_rfl) (by simp) ?_
    refine AllReadyH.cons rfl (fun K hK => ?_) AllReadyH.nil
    go_simp
    refine hK.out _ _ ⟨(blk_cell hb7' 0).trans rfl, (blk_cell hb7' 1).trans rfl, (blk_cell hb7' 2).trans rfl⟩ (fun hHeld => ?_)
    clear hK K
    refine wpAnyH_ready (rs := [7]) (by kernel_rfl) (by simp) ?_
    refine AllReadyH.cons rfl (fun K hK => ?_) AllReadyH.nil
    refine step_app_raw 135 rfl W7.heap.size W7 rfl (.tmp 132) (.tmp 134) rfl (.slice none 0 0) 0 wc.heap.size [] rfl rfl (.int .u16 t) (.int .u16 l) (.slice (some ⟨rb1, 24, none⟩) l c4) (World.ownsRow_nil _ _ _ _) ((blk_cell hb7 0).trans rfl) ((blk_cell hb7 1).trans rfl) ((blk_cell hb7 2).trans rfl) rfl rfl rfl (Nat.le_refl _) (by omega) ?_
    intro v8 w8 hown8 hgr8
    simp only [Act.put, List.setIfInBounds_toArray, List.set_cons_zero, List.set_cons_succ]
    obtain ⟨ab2, cap2, rfl, hcap2, hab1, hab2, e0, e1, e2⟩ := raw_cells hown8
    have hk8 : Kept [] W7 w8 := Kept.of_grown hgr8 (fun b e => by cases e)
    have hB8 : Below wc.heap.size wc w8 := below_then hB7 hk8.toBelow
    have hg8 := hs.out.raw.below hB8
    have hb8 := blk_below ha.out hB8
    have c15 := hg8.1.facts.2.2.2.1
    have f15 := hg8.1.free 15
    refine hK.out _ _ ⟨(blk_cell hb8 0).trans rfl, (blk_cell hb8 1).trans rfl, (blk_cell hb8 2).trans rfl⟩ (fun hHeld => ?_)
    clear hK K
    refine wpAnyH_take (i := 8) (v := ?_) rfl (by kernel_rfl) (by kernel_rfl) (by kernel_rfl) (fun _ _ _ h => h) (Or.inl ⟨by rfl, ?_⟩) hHeld ?_
    rotate_left
    · (intro w' hSw; (try dsimp only at hSw); go_simp <;> with_reducible rfl)
    simp only [List.getElem_toArray, List.getElem_cons_succ, List.getElem_cons_zero, Act.put, List.setIfInBounds_toArray, List.set_cons_zero, List.set_cons_succ]
    refine wpAnyH_take (i := 9) (v := ?_) rfl (by kernel_rfl) (by kernel_rfl) (by kernel_rfl) (fun _ _ _ h => h) (Or.inl ⟨by rfl, ?_⟩) hHeld ?_
    rotate_left
    · (intro w' hSw; (try dsimp only at hSw); go_simp <;> with_reducible rfl)
    simp only [List.getElem_toArray, List.getElem_cons_succ, List.getElem_cons_zero, Act.put, List.setIfInBounds_toArray, List.set_cons_zero, List.set_cons_succ]
    refine wpAnyH_ready (rs := [10]) (by kernel_rfl) (by simp) ?_
    refine AllReadyH.cons rfl (fun K hK => ?_) AllReadyH.nil
    go_simp
    have hb9 := blk_far (p := ⟨g, 15, none⟩) hb8 (fun e => hga e.symm) (.slice (some ⟨ab2, 0, none⟩) 1 cap2)
    refine hK.out _ _ ⟨(blk_cell hb9 0).trans rfl, (blk_cell hb9 1).trans rfl, (blk_cell hb9 2).trans rfl⟩ (fun hHeld => ?_)
    clear hK K hHeld
    refine wpAnyH_done (by kernel_rfl) ?_ _
    have hr9 : RawMsg (w8.setCell ⟨g, 15, none⟩ (.slice (some ⟨ab2, 0, none⟩) 1 cap2)) g rb2 (4 + (pad4 l : Int)) id (.slice (some ⟨ab2, 0, none⟩) 1 cap2) (24 + pad4 l) bs2 :=
      ⟨hg8.1.set15 _, blk_far hg8.2.1 hg8.2.2.2 _, hg8.2.2⟩
    have hk9 : Kept [g, rb] w (w8.setCell ⟨g, 15, none⟩ (.slice (some ⟨ab2, 0, none⟩) 1 cap2)) := (hs.out.kept.then_below (hB8.mono hs.out.kept.size)).setCell (.inl (by simp)) _
    have HF := Lib.hid (And.intro hr9 (And.intro hk9 hs.out.own))
    clear hb9 hb8 hg8 hB8 c15 f15 e0 e1 e2 hown8 hgr8 hk8 hb7 hb7' hg7 hB7 c15' hr9 hk9 hs ha
    have hpq : pad4 l ≤ l + 3 := by unfold pad4; omega
    go_wp2_with fail
    refine (mWL_any g rb2 _ id _ _ bs2 _ HF.out.1 (by omega) (by omega)).mono ?_
    rintro e wz ⟨rfl, hz, hkz⟩
    have HZ := Lib.hid (And.intro hz hkz)
    clear hz hkz
    go_wp2_with fail
    go_end0
    refine ⟨rfl, rb2, _, _, HZ.out.1, ?_, HF.out.2.2, HF.out.2.1.trans HZ.out.2 ?_⟩
    · rw [List.take_set, List.take_set, hT.out]; rfl
    · intro x hx
      obtain rfl : x = rb2 := by simpa using hx
      rcases HF.out.2.2 with rfl | hh
      · exact .inl (by simp)
      · exact .inr hh
end Go.Proofs.YthgghgejndncnaaGreat
