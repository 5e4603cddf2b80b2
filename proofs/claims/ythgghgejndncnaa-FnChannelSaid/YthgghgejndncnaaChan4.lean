/- 'impl.ParseChannel' itself. -/
import Derived.Test.YthgghgejndncnaaChan3
import Derived.Handy
namespace Go.Proofs.Ythgghgejndncnaa
open Go.RowKit
set_option linter.unusedSimpArgs false
set_option linter.unusedVariables false

/-- the bytes are none of channel data -/
theorem parse_bad (n c : Nat) (A : Option Addr) (raw : List Int) (w : World) (hn : raw.length = n) (hnc : n ≤ c) (hl : n ≤ 999999) (hb : Bys raw) (hR : Rd w A raw) (hbad : cdBad raw) :
    Calls Try.prog 13 #[.slice A n c] w fun e w' => e = .returned (.tuple #[.int .i64 0, .slice none 0 0, .bool false]) ∧ Below w.heap.size w w' := by
  have hmf : ∀ (fn : Fn) (first cap : Array Value) (w : World), (Instr.makeFunc fn first cap).run Try.prog w = .ok (.func fn first cap) w := fun _ _ _ _ => rfl
  have HN := Lib.hid hn
  have HR := Lib.hid hR
  have HBy := Lib.hid hb
  have HBad := Lib.hid hbad
  clear hn hR hb hbad
  go_enter Try.func13, Try.ntmps13
  go_wp2_with fail
  obtain ⟨W, hW⟩ : ∃ W, W = ((w.alloc (.cells #[.slice A n c] 24)).alloc (.cells #[.int .i64 0] 3)).alloc (.cells #[.slice none 0 0] 24) := ⟨_, rfl⟩
  rw [← hW]
  have hs : W.heap.size = w.heap.size + 3 := by subst hW; simp
  have b0 : W.heap[w.heap.size]? = some (.cells #[.slice A n c] 24 (0, 0)) := by subst hW; exact blk_alloc (blk_alloc (heap_alloc_new w _) _) _
  have b1 : W.heap[w.heap.size + 1]? = some (.cells #[.int .i64 0] 3 (0, 0)) := by subst hW; exact blk_alloc (by have := heap_alloc_new (w.alloc (.cells #[.slice A n c] 24)) (.cells #[.int .i64 0] 3); simpa using this) _
  have b2 : W.heap[w.heap.size + 1 + 1]? = some (.cells #[.slice none 0 0] 24 (0, 0)) := by
    subst hW
    have := heap_alloc_new ((w.alloc (.cells #[.slice A n c] 24)).alloc (.cells #[.int .i64 0] 3)) (.cells #[.slice none 0 0] 24)
    simpa using this
  have hK0 : Kept [] w W := by subst hW; exact (by repeat (first | exact Kept.refl _ _ | apply Kept.drewN | apply Kept.drew | (refine Kept.setCell ?_ (by simp) _) | apply Kept.alloc))
  have HW := Lib.hid (And.intro hs (And.intro b0 (And.intro b1 (And.intro b2 hK0))))
  clear hs b0 b1 b2 hK0 hW
  refine (try_any 29 _ W (fun b w' => b = false ∧ Kept [] W w') (enter29 _) ?_).mono ?_
  · refine (parse1_bad w.heap.size (w.heap.size + 1) (w.heap.size + 1 + 1) n c A raw _ HN.out hnc hl HBy.out ?_ HBad.out ?_).mono ?_
    · exact (HR.out.kept HW.out.2.2.2.2 (by simp)).alloc _
    · exact (blk_cell (blk_alloc HW.out.2.1 _) 0).trans rfl
    · rintro e w' ⟨rfl, hK⟩
      exact ⟨false, rfl, blk_kept (heap_alloc_new W _) hK (by simp), rfl, ((Kept.refl [] W).alloc _).trans hK (by simp)⟩
  rintro e w' ⟨b, w1, rfl, ⟨rfl, hK⟩, rfl⟩
  obtain ⟨hs, b0, b1, b2, hK0⟩ := HW.out
  have q1 := blk_far (p := ⟨W.heap.size, 0, none⟩) (blk_kept b1 hK (by simp)) (by simp; omega) (.bool false)
  have q2 := blk_far (p := ⟨W.heap.size, 0, none⟩) (blk_kept b2 hK (by simp)) (by simp; omega) (.bool false)
  have hKf : Kept [] w (w1.setCell ⟨W.heap.size, 0, none⟩ (.bool false)) := (hK0.trans hK (by simp)).setCell (.inr (by simp; omega)) _
  obtain ⟨w2, hw2⟩ : ∃ w2, w2 = w1.setCell ⟨W.heap.size, 0, none⟩ (.bool false) := ⟨_, rfl⟩
  rw [← hw2] at q1 q2 hKf ⊢
  clear hw2 HW hs b0 b1 b2 hK0 hK
  have d1 : w2.cell? ⟨w.heap.size + 1, 0, none⟩ = some (.int .i64 0) := (blk_cell q1 0).trans rfl
  have d2 : w2.cell? ⟨w.heap.size + 1 + 1, 0, none⟩ = some (.slice none 0 0) := (blk_cell q2 0).trans rfl
  have f1 := blk_free q1 0
  have f2 := blk_free q2 0
  have HK := Lib.hid hKf
  clear q1 q2 hKf
  go_wp2_with fail
  have e1 := World.cell?_setCell_same w2 ⟨w.heap.size + 1, 0, none⟩ (.int .i64 0) d1
  have e2 := World.cell?_setCell_same (w2.setCell ⟨w.heap.size + 1, 0, none⟩ (.int .i64 0)) ⟨w.heap.size + 1 + 1, 0, none⟩ (.slice none 0 0) ((World.cell?_setCell_other _ _ _ _ (by simp)).trans d2)
  refine bodyPost_ret (v := .tuple #[.int .i64 0, .slice none 0 0, .bool false]) (by simp [results, Try.results13, go_sem, e1, e2]) rfl ?_
  refine ⟨rfl, Kept.toBelow ?_⟩
  exact (HK.out.setCell (.inr (by simp)) _).setCell (.inr (by simp; omega)) _

/-- the bytes are channel data -/
theorem parse_good (n c : Nat) (A : Option Addr) (raw : List Int) (w : World) (hn : raw.length = n) (hnc : n ≤ c) (hl : n ≤ 999999) (hb : Bys raw) (hR : Rd w A raw)
    (h4 : 4 ≤ n) (hv : 16384 ≤ cdNum raw ∧ cdNum raw ≤ 32767) (l : Nat) (hll : cdLen raw = l) (hlen : 4 + l ≤ n) :
    Calls Try.prog 13 #[.slice A n c] w fun e w' => ∃ v, e = .returned (.tuple #[.int .i64 (cdNum raw), v, .bool true]) ∧ w'.ownsRow w.heap.size 5 1 v l (nums ((raw.drop 4).take l)) ∧ Below w.heap.size w w' := by
  have hmf : ∀ (fn : Fn) (first cap : Array Value) (w : World), (Instr.makeFunc fn first cap).run Try.prog w = .ok (.func fn first cap) w := fun _ _ _ _ => rfl
  have HN := Lib.hid hn
  have HR := Lib.hid hR
  have HBy := Lib.hid hb
  have HL := Lib.hid hll
  clear hn hR hb hll
  go_enter Try.func13, Try.ntmps13
  go_wp2_with fail
  obtain ⟨W, hW⟩ : ∃ W, W = ((w.alloc (.cells #[.slice A n c] 24)).alloc (.cells #[.int .i64 0] 3)).alloc (.cells #[.slice none 0 0] 24) := ⟨_, rfl⟩
  rw [← hW]
  have hs : W.heap.size = w.heap.size + 3 := by subst hW; simp
  have b0 : W.heap[w.heap.size]? = some (.cells #[.slice A n c] 24 (0, 0)) := by subst hW; exact blk_alloc (blk_alloc (heap_alloc_new w _) _) _
  have b1 : W.heap[w.heap.size + 1]? = some (.cells #[.int .i64 0] 3 (0, 0)) := by subst hW; exact blk_alloc (by have := heap_alloc_new (w.alloc (.cells #[.slice A n c] 24)) (.cells #[.int .i64 0] 3); simpa using this) _
  have b2 : W.heap[w.heap.size + 1 + 1]? = some (.cells #[.slice none 0 0] 24 (0, 0)) := by
    subst hW
    have := heap_alloc_new ((w.alloc (.cells #[.slice A n c] 24)).alloc (.cells #[.int .i64 0] 3)) (.cells #[.slice none 0 0] 24)
    simpa using this
  have hK0 : Kept [] w W := by subst hW; exact (by repeat (first | exact Kept.refl _ _ | apply Kept.drewN | apply Kept.drew | (refine Kept.setCell ?_ (by simp) _) | apply Kept.alloc))
  have HW := Lib.hid (And.intro hs (And.intro b0 (And.intro b1 (And.intro b2 hK0))))
  clear hs b0 b1 b2 hK0 hW
  refine (try_any 29 _ W (fun b w' => b = true ∧ Kept [w.heap.size + 1, w.heap.size + 1 + 1] W w' ∧ w'.heap[W.heap.size]? = some (.cells #[.bool false] 4 (0, 0)) ∧
      ∃ v, w'.heap[w.heap.size + 1]? = some (.cells #[.int .i64 (cdNum raw)] 3 (0, 0)) ∧ w'.heap[w.heap.size + 1 + 1]? = some (.cells #[v] 24 (0, 0)) ∧ w'.ownsRow (W.heap.size + 1) 5 1 v l (nums ((raw.drop 4).take l))) (enter29 _) ?_).mono ?_
  · refine (parse1_good w.heap.size (w.heap.size + 1) (w.heap.size + 1 + 1) n c A raw _ HN.out hnc hl HBy.out ?_ h4 hv l HL.out hlen (by omega) (by omega) (by omega) ?_ ?_ ?_).mono ?_
    · exact (HR.out.kept HW.out.2.2.2.2 (by simp)).alloc _
    · exact (blk_cell (blk_alloc HW.out.2.1 _) 0).trans rfl
    · exact blk_alloc HW.out.2.2.1 _
    · exact blk_alloc HW.out.2.2.2.1 _
    · rintro e w' ⟨rfl, hK, v, h1, h2, h3⟩
      have hs := HW.out.1
      have hb := blk_kept (heap_alloc_new W (.cells #[.bool false] 4)) hK (by simp; omega)
      exact ⟨true, rfl, hb, rfl, ((Kept.refl _ W).alloc _).trans hK (by simp), hb, v, h1, h2, by simpa using h3⟩
  rintro e w' ⟨b, w1, rfl, ⟨rfl, hK, hbb, v, q1, q2, hown⟩, rfl⟩
  obtain ⟨hs, b0, b1, b2, hK0⟩ := HW.out
  have q1 := blk_far (p := ⟨W.heap.size, 0, none⟩) q1 (by simp; omega) (.bool true)
  have q2 := blk_far (p := ⟨W.heap.size, 0, none⟩) q2 (by simp; omega) (.bool true)
  have hKf : Kept [] w (w1.setCell ⟨W.heap.size, 0, none⟩ (.bool true)) := ((hK0.mono (T := [w.heap.size + 1, w.heap.size + 1 + 1]) (by simp)).trans hK (by simp) |>.mono (by simp; omega)).setCell (.inr (by simp; omega)) _
  have hown2 := ownsRow_setCell_below hown (a := ⟨W.heap.size, 0, none⟩) (by simp) (.bool true)
  obtain ⟨-, A3, c3, rfl, -, -, -⟩ := own_rd hown2
  obtain ⟨w2, hw2⟩ : ∃ w2, w2 = w1.setCell ⟨W.heap.size, 0, none⟩ (.bool true) := ⟨_, rfl⟩
  rw [← hw2] at q1 q2 hKf hown2 ⊢
  have hown3 : w2.ownsRow (w.heap.size + 4) 5 1 (.slice A3 l c3) l (nums ((raw.drop 4).take l)) := by rw [hs] at hown2; exact hown2
  clear hw2 HW hs b0 b1 b2 hK0 hK hown hown2 hbb
  have d1 : w2.cell? ⟨w.heap.size + 1, 0, none⟩ = some (.int .i64 (cdNum raw)) := (blk_cell q1 0).trans rfl
  have d2 : w2.cell? ⟨w.heap.size + 1 + 1, 0, none⟩ = some (.slice A3 l c3) := (blk_cell q2 0).trans rfl
  have f1 := blk_free q1 0
  have f2 := blk_free q2 0
  have HK := Lib.hid hKf
  have HO := Lib.hid hown3
  clear q1 q2 hKf hown3
  go_wp2_with fail
  go_region
  all_goals go_wp2_with fail
  have e1 := World.cell?_setCell_same w2 ⟨w.heap.size + 1, 0, none⟩ (.int .i64 (cdNum raw)) d1
  have e2 := World.cell?_setCell_same (w2.setCell ⟨w.heap.size + 1, 0, none⟩ (.int .i64 (cdNum raw))) ⟨w.heap.size + 1 + 1, 0, none⟩ (.slice A3 l c3) ((World.cell?_setCell_other _ _ _ _ (by simp)).trans d2)
  refine bodyPost_ret (v := .tuple #[.int .i64 (cdNum raw), .slice A3 l c3, .bool true]) (by simp [results, Try.results13, go_sem, e1, e2]) rfl ?_
  have hO := ownsRow_setCell_below (ownsRow_setCell_below HO.out (a := ⟨w.heap.size + 1, 0, none⟩) (by simp) (.int .i64 (cdNum raw))) (a := ⟨w.heap.size + 1 + 1, 0, none⟩) (by simp) (.slice A3 l c3)
  exact ⟨_, rfl, own_lower hO (by omega), Kept.toBelow (((HK.out.setCell (.inr (by simp)) _).setCell (.inr (by simp; omega)) _).drew)⟩
end Go.Proofs.Ythgghgejndncnaa
