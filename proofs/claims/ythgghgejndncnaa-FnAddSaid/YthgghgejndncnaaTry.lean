/- 'impl.try': a call that neither panics nor turns the cell of the result comes back with its answer. -/
import Derived.Test.YthgghgejndncnaaMem
import Derived.Defers
import Derived.Recover
import Derived.WalkSpells
import Derived.WalkLawsBesides
namespace Go.Proofs.Ythgghgejndncnaa
open Go.RowKit
set_option linter.unusedSimpArgs false
set_option linter.unusedVariables false

/-- the deferred closure where nothing panics -/
theorem try1_idle (p : Addr) (w : World) :
    CallsD Try.prog 46 #[.pointer (some p)] .returning w fun e u' w' => e = .returned (.tuple #[]) ∧ u' = .returning ∧ w' = w := by
  refine callsD_of_wpS Try.func46 rfl fun c₀ cs hu => ?_
  apply wpS_seq
  apply wpS_region
  simp [wpOpsS, go_sem, recoverD, hu, Try.ntmps46, Exit.thenS]
  refine wpS_cond (t := false) (by simp [Act.eval, Array.replicate]) ?_
  simp only [Bool.false_eq_true, if_false]
  refine wpS_of_wp (wp_skip ?_)
  cases c₀
  simp_all [bodyPostS, results, Try.results46]

set_option maxRecDepth 100000 in
theorem try_any (F : FuncId) (cap : Array Value) (w : World) (R : Bool → World → Prop) (hF : ∀ w : World, (callFunc F cap).run Try.prog w = .ok (.enter F cap) w)
    (h : Calls Try.prog F cap (w.alloc (.cells #[.bool false] 4)) fun e w' => ∃ b, e = .returned (.bool b) ∧ w'.heap[w.heap.size]? = some (.cells #[.bool false] 4 (0, 0)) ∧ R b w') :
    Calls Try.prog 28 #[.func (.func F) #[] cap] w fun e w' => ∃ b w1, e = .returned (.bool b) ∧ R b w1 ∧ w' = w1.setCell ⟨w.heap.size, 0, none⟩ (.bool b) := by
  have hmf : ∀ (fn : Fn) (first cap : Array Value) (w : World), (Instr.makeFunc fn first cap).run Try.prog w = .ok (.func fn first cap) w := fun _ _ _ _ => rfl
  have H := Lib.hid h
  clear h
  go_enter_defers Try.func28, Try.ntmps28
  go_wp2_with fail
  refine H.mono ?_
  rintro e w1 ⟨b, rfl, hb, hR⟩
  have HR := Lib.hid hR
  have HB := Lib.hid hb
  have hc : w1.cell? ⟨w.heap.size, 0, none⟩ = some (.bool false) := by rw [cell_of_row w1 w.heap.size 0 _ _ _ hb]; rfl
  have hf : w1.frozen? ⟨w.heap.size, 0, none⟩ = false := by simp [World.frozen?, hb]
  clear hb hR H
  go_wp2_with fail
  refine leaves_cons (f := 46) (args := #[.pointer (some ⟨w.heap.size, 0, none⟩)]) (by simp) (by simp [hF, go_sem]) ?_
  refine (try1_idle ⟨w.heap.size, 0, none⟩ _).mono ?_
  rintro e u' w'' ⟨rfl, rfl, rfl⟩
  have hc2 := World.cell?_setCell_same w1 ⟨w.heap.size, 0, none⟩ (.bool b) hc
  show Leaves Try.prog Try.f28 _ _ [] .returning _
  refine ⟨.bool b, by simp [results, Try.results28, go_sem, hc2], b, w1, rfl, HR, rfl⟩
end Go.Proofs.Ythgghgejndncnaa
