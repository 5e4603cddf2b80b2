/- 'impl.ChannelData': the bytes that the package makes of channel data. -/
import Derived.Test.YthgghgejndncnaaEnc3
import Derived.Test.YthgghgejndncnaaClone
import Derived.Test.YthgghgejndncnaaTry
namespace Go.Proofs.Ythgghgejndncnaa
open Go.RowKit
set_option linter.unusedSimpArgs false
set_option linter.unusedVariables false

theorem enter33 (args : Array Value) (w : World) : (callFunc 33 args).run Try.prog w = .ok (.enter 33 args) w :=
  enters Try.func33 (by kernel_rfl) rfl args w

set_option maxRecDepth 100000 in
set_option maxHeartbeats 1000000 in
theorem chanData1_any (p0 p1 p2 n c : Nat) (A : Option Addr) (num : Int) (xs : List Int) (w : World) (hnum : 0 ≤ num ∧ num ≤ 65535) (hn : xs.length = n) (hl : n ≤ 2000) (hR : Rd w A xs)
    (h0 : w.cell? ⟨p0, 0, none⟩ = some (.slice A n c)) (h1 : w.cell? ⟨p1, 0, none⟩ = some (.int .i64 num)) (h2 : w.heap[p2]? = some (.cells #[.slice none 0 0] 24 (0, 0))) :
    Calls Try.prog 33 #[.pointer (some ⟨p0, 0, none⟩), .pointer (some ⟨p1, 0, none⟩), .pointer (some ⟨p2, 0, none⟩)] w fun e w' => e = .returned (.bool true) ∧ Kept [p2] w w' ∧
      ∃ v, w'.heap[p2]? = some (.cells #[v] 24 (0, 0)) ∧ w'.ownsRow w.heap.size 5 1 v (chanB num xs).length (nums (chanB num xs)) := by
  have HN := Lib.hid hn
  have HR := Lib.hid hR
  have H2 := Lib.hid h2
  have l0 := World.block_lt_of_cell? w _ h0
  have l1 := World.block_lt_of_cell? w _ h1
  have m0 : ¬ p0 = w.heap.size := by simp at l0; omega
  have m1 : ¬ p1 = w.heap.size := by simp at l1; omega
  clear hn hR h2 l0 l1
  go_enter Try.func33, Try.ntmps33
  go_wp2_with fail
  go_region_held3 (fun w' => w'.cell? ⟨p0, 0, none⟩ = some (.slice A n c) ∧ w'.cell? ⟨p1, 0, none⟩ = some (.int .i64 num))
    (first | exact ⟨cell_later hB1 h0, cell_later hB1 h1⟩ | (refine ⟨?_, ?_⟩ <;> go_keep; done) | (go_keep; done))
    ((go_at_call 30; refine (cloneB_any A n c xs _ HN.out (by omega) ?_).mono ?_; exact HR.out; rintro e w1 ⟨v1, rfl, hown1, hB1⟩; obtain ⟨-, A1, c1, rfl, -, -, hR1⟩ := own_rd hown1; have HR1 := Lib.hid hR1; clear hR1; have HO1 := Lib.hid hown1; clear hown1))
  rename_i hh
  clear hh h0 h1
  rw [wraps_u16 num (by omega) (by omega)]
  have hK1 : Kept [p2] w (w1.alloc (.cells #[.slice A1 n c1, .int .i64 0, .int .u16 num, .slice none 0 0] 56)) := (Kept.then_below ((Kept.refl [p2] w).drew) hB1).alloc _
  have hsz : w.heap.size ≤ w1.heap.size := by have := hB1.size; simpa using this
  have HS := Lib.hid hsz
  have HK1 := Lib.hid hK1
  clear hK1 hsz
  go_wp2_with fail
  refine (cdEncode_any w1.heap.size n c1 A1 num xs _ hnum HN.out hl (HR1.out.alloc _) ?_ (heap_alloc_new w1 _)).mono ?_
  · intro a ha
    subst ha
    have := (HO1.out.lt a.block (by simp [Value.ownBlock])).2
    omega
  rintro e w2 ⟨rfl, v2, hb2, hO2, hK2⟩
  have hKK : Kept [p2] w w2 := HK1.out.trans hK2 (by simp; right; exact HS.out)
  obtain ⟨hl2, A2, c2, rfl, hc2, hcm2, hR2⟩ := own_rd hO2
  have k3 : w2.cell? ⟨w1.heap.size, 3, none⟩ = some (.slice A2 (chanB num xs).length c2) := (blk_cell hb2 3).trans rfl
  have q2 : w2.heap[p2]? = some (.cells #[.slice none 0 0] 24 (0, 0)) := by
    have h3 := blk_kept (blk_alloc (blk_below (w := w.drew) H2.out hB1) (.cells #[.slice A1 n c1, .int .i64 0, .int .u16 num, .slice none 0 0] 56)) hK2 (by have := blk_lt H2.out; have := HS.out; simp; omega)
    exact h3
  have HB2 := Lib.hid hb2
  have HR2 := Lib.hid hR2
  have HKK := Lib.hid hKK
  have HQ2 := Lib.hid q2
  have hlen : (chanB num xs).length ≤ 9999 := by rw [chanB_length]; unfold pad4; have := HN.out; omega
  have HL := Lib.hid hl2
  clear hb2 hO2 hK2 hKK hR2 q2 hl2
  generalize hr : chanB num xs = raw at *
  generalize hm : raw.length = rn at *
  have HM := Lib.hid hm
  have HE := Lib.hid hr
  clear hr hm
  go_wp2_with fail
  refine (cloneB_any A2 rn c2 raw _ HM.out (by omega) HR2.out).mono ?_
  rintro e w3 ⟨v3, rfl, hown3, hB3⟩
  obtain ⟨-, A3, c3, rfl, -, -, -⟩ := own_rd hown3
  have q3 := blk_below HQ2.out hB3
  have d2 : w3.cell? ⟨p2, 0, none⟩ = some (.slice none 0 0) := (blk_cell q3 0).trans rfl
  have f2 := blk_free q3 0
  have HO3 := Lib.hid hown3
  have HB3 := Lib.hid hB3
  have HQ3 := Lib.hid q3
  clear q3 hown3 hB3 k3
  go_wp2_with fail
  go_ret
  exact ⟨rfl, (HKK.out.then_below (HB3.out.mono HKK.out.size)).setCell (.inl (by simp)) _, _, blk_set HQ3.out 0 _, by rw [HE.out, HM.out]; exact own_lower (ownsRow_setCell_below HO3.out (a := ⟨p2, 0, none⟩) (blk_lt HQ2.out) _) HKK.out.size⟩

/-- 'impl.ChannelData' -/
theorem chanData_any (n c : Nat) (A : Option Addr) (num : Int) (xs : List Int) (w : World) (hnum : 0 ≤ num ∧ num ≤ 65535) (hn : xs.length = n) (hl : n ≤ 2000) (hR : Rd w A xs) :
    Calls Try.prog 15 #[.int .i64 num, .slice A n c] w fun e w' => ∃ v, e = .returned v ∧ w'.ownsRow w.heap.size 5 1 v (chanB num xs).length (nums (chanB num xs)) ∧ Below w.heap.size w w' := by
  have hmf : ∀ (fn : Fn) (first cap : Array Value) (w : World), (Instr.makeFunc fn first cap).run Try.prog w = .ok (.func fn first cap) w := fun _ _ _ _ => rfl
  have HN := Lib.hid hn
  have HR := Lib.hid hR
  have t0 : decide (num < 0) = false := decide_eq_false (by omega)
  have t1 : decide (65535 < num) = false := decide_eq_false (by omega)
  clear hn hR
  go_enter Try.func15, Try.ntmps15
  go_wp2_with fail
  obtain ⟨W, hW⟩ : ∃ W, W = ((w.alloc (.cells #[.int .i64 num] 3)).alloc (.cells #[.slice A n c] 24)).alloc (.cells #[.slice none 0 0] 24) := ⟨_, rfl⟩
  rw [← hW]
  have hs : W.heap.size = w.heap.size + 3 := by subst hW; simp
  have b0 : W.heap[w.heap.size]? = some (.cells #[.int .i64 num] 3 (0, 0)) := by subst hW; exact blk_alloc (blk_alloc (heap_alloc_new w _) _) _
  have b1 : W.heap[w.heap.size + 1]? = some (.cells #[.slice A n c] 24 (0, 0)) := by subst hW; exact blk_alloc (by have := heap_alloc_new (w.alloc (.cells #[.int .i64 num] 3)) (.cells #[.slice A n c] 24); simpa using this) _
  have b2 : W.heap[w.heap.size + 1 + 1]? = some (.cells #[.slice none 0 0] 24 (0, 0)) := by
    subst hW
    have := heap_alloc_new ((w.alloc (.cells #[.int .i64 num] 3)).alloc (.cells #[.slice A n c] 24)) (.cells #[.slice none 0 0] 24)
    simpa using this
  have hK0 : Kept [] w W := by subst hW; exact (by repeat (first | exact Kept.refl _ _ | apply Kept.drewN | apply Kept.drew | (refine Kept.setCell ?_ (by simp) _) | apply Kept.alloc))
  have HW := Lib.hid (And.intro hs (And.intro b0 (And.intro b1 (And.intro b2 hK0))))
  clear hs b0 b1 b2 hK0 hW
  refine (try_any 33 _ W (fun b w' => b = true ∧ Kept [w.heap.size + 1 + 1] W w' ∧ w'.heap[W.heap.size]? = some (.cells #[.bool false] 4 (0, 0)) ∧
      ∃ v, w'.heap[w.heap.size + 1 + 1]? = some (.cells #[v] 24 (0, 0)) ∧ w'.ownsRow (W.heap.size + 1) 5 1 v (chanB num xs).length (nums (chanB num xs))) (enter33 _) ?_).mono ?_
  · refine (chanData1_any (w.heap.size + 1) w.heap.size (w.heap.size + 1 + 1) n c A num xs _ hnum HN.out hl ?_ ?_ ?_ ?_).mono ?_
    · exact (HR.out.kept HW.out.2.2.2.2 (by simp)).alloc _
    · exact (blk_cell (blk_alloc HW.out.2.2.1 _) 0).trans rfl
    · exact (blk_cell (blk_alloc HW.out.2.1 _) 0).trans rfl
    · exact blk_alloc HW.out.2.2.2.1 _
    · rintro e w' ⟨rfl, hK, v, h1, h2⟩
      have hs := HW.out.1
      have hb := blk_kept (heap_alloc_new W (.cells #[.bool false] 4)) hK (by simp; omega)
      exact ⟨true, rfl, hb, rfl, ((Kept.refl _ W).alloc _).trans hK (by simp), hb, v, h1, by simpa using h2⟩
  rintro e w' ⟨b, w1, rfl, ⟨rfl, hK, hbb, v, q2, hown⟩, rfl⟩
  obtain ⟨hs, b0, b1, b2, hK0⟩ := HW.out
  have q2 := blk_far (p := ⟨W.heap.size, 0, none⟩) q2 (by simp; omega) (.bool true)
  have hKf : Kept [] w (w1.setCell ⟨W.heap.size, 0, none⟩ (.bool true)) := ((hK0.mono (T := [w.heap.size + 1 + 1]) (by simp)).trans hK (by simp) |>.mono (by simp; omega)).setCell (.inr (by simp; omega)) _
  have hown2 := ownsRow_setCell_below hown (a := ⟨W.heap.size, 0, none⟩) (by simp) (.bool true)
  obtain ⟨-, A3, c3, rfl, -, -, -⟩ := own_rd hown2
  obtain ⟨w2, hw2⟩ : ∃ w2, w2 = w1.setCell ⟨W.heap.size, 0, none⟩ (.bool true) := ⟨_, rfl⟩
  rw [← hw2] at q2 hKf hown2 ⊢
  rw [hs] at hown2
  clear hw2 HW hs b0 b1 b2 hK0 hK hown hbb
  generalize hr : chanB num xs = raw at *
  generalize hm : raw.length = rn at *
  have HM := Lib.hid hm
  have HE := Lib.hid hr
  clear hr hm
  have d2 : w2.cell? ⟨w.heap.size + 1 + 1, 0, none⟩ = some (.slice A3 rn c3) := (blk_cell q2 0).trans rfl
  have f2 := blk_free q2 0
  have HK := Lib.hid hKf
  have HO := Lib.hid hown2
  clear q2 hKf hown2
  go_wp2_with fail
  have e2 := World.cell?_setCell_same w2 ⟨w.heap.size + 1 + 1, 0, none⟩ (.slice A3 rn c3) d2
  refine bodyPost_ret (v := .slice A3 rn c3) (by simp [results, Try.results15, go_sem, e2]) rfl ?_
  exact ⟨_, rfl, by rw [HE.out, HM.out]; exact own_lower (base := w.heap.size + 3 + 1) (ownsRow_setCell_below HO.out (a := ⟨w.heap.size + 1 + 1, 0, none⟩) (by simp) _) (by omega), Kept.toBelow (HK.out.setCell (.inr (by simp; omega)) _)⟩
end Go.Proofs.Ythgghgejndncnaa
