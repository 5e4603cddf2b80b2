/- a message's small methods: New, ReadValue, compat; beUint of a slice that reads as a list. -/
import Derived.Test.YthgghgejndncnaaBlk
import Derived.Test.YthgghgejndncnaaBytes
namespace Go.Proofs.Ythgghgejndncnaa
open Go.RowKit
set_option linter.unusedSimpArgs false
set_option linter.unusedVariables false

theorem sbe16_rd (A : Option Addr) (n c : Nat) (x y : Int) (zs : List Int) (w : World) (hn : 2 ≤ n) (hx : 0 ≤ x ∧ x ≤ 255) (hy : 0 ≤ y ∧ y ≤ 255) (hR : Rd w A (x :: y :: zs)) :
    Calls Try.prog 72 #[.slice A n c] w fun e w' => e = .returned (.int .u16 (x * 256 + y)) ∧ ∃ k, w' = w.drewN k := by
  obtain ⟨b, o, rfl, hc⟩ := hR (by simp)
  exact sbe16_any b o n c x y w hn hx hy (hc 0 (by simp)) (hc 1 (by simp))
theorem sbe32_rd (A : Option Addr) (n c : Nat) (x0 x1 x2 x3 : Int) (zs : List Int) (w : World) (hn : 4 ≤ n) (r0 : 0 ≤ x0 ∧ x0 ≤ 255) (r1 : 0 ≤ x1 ∧ x1 ≤ 255) (r2 : 0 ≤ x2 ∧ x2 ≤ 255) (r3 : 0 ≤ x3 ∧ x3 ≤ 255) (hR : Rd w A (x0 :: x1 :: x2 :: x3 :: zs)) :
    Calls Try.prog 73 #[.slice A n c] w fun e w' => e = .returned (.int .u32 (x0 * 16777216 + x1 * 65536 + x2 * 256 + x3)) ∧ ∃ k, w' = w.drewN k := by
  obtain ⟨b, o, rfl, hc⟩ := hR (by simp)
  exact sbe32_any b o n c x0 x1 x2 x3 w hn r0 r1 r2 r3 (hc 0 (by simp)) (hc 1 (by simp)) (hc 2 (by simp)) (hc 3 (by simp))

theorem compat_any (t : Int) (w : World) (ht : t ≠ 32800) :
    Calls Try.prog 77 #[.int .u16 t] w fun e w' => e = .returned (.int .u16 t) ∧ w = w' := by
  have t0 : (t == 32800) = false := by rw [beq_eq_false_iff_ne]; exact ht
  go_enter Try.func77, Try.ntmps77
  go_wp2_with fail
  go_ret
  exact ⟨rfl, rfl⟩

set_option maxRecDepth 100000 in
theorem new_any (w : World) :
    Calls Try.prog 36 #[] w fun e w' => ∃ g r, e = .returned (.pointer (some ⟨g, 0, none⟩)) ∧ MsgBlk w' g 0 0 0 zeros12 (.slice none 0 0) (.slice (some ⟨r, 0, none⟩) 20 120) ∧
      w'.heap[r]? = some (.cells (nums (List.replicate 120 0)).toArray 5 (0, 0)) ∧ w.heap.size ≤ r ∧ r < g ∧ Below w.heap.size w w' := by
  have hmk : ∀ w, (Instr.makeSlice 24 (.int .i64 20) (.int .i64 120)).run Try.prog w = .ok (.slice (some ⟨w.heap.size, 0, none⟩) 20 120) (w.alloc (.cells (nums (List.replicate 120 0)).toArray 5)) := fun _ => by kernel_rfl
  generalize hz : (nums (List.replicate 120 0)).toArray = Z at hmk
  go_enter Try.func36, Try.ntmps36
  go_wp2_with fail
  go_ret
  refine ⟨_, w.heap.size, rfl, ⟨rfl, ?_⟩, blk_alloc (heap_alloc_new w _) _, Nat.le_refl _, by omega, below_then (below_alloc _ _) (below_alloc _ _)⟩
  exact heap_at (w.alloc (.cells Z 5)) _ (w.heap.size + 1) (by simp)

set_option maxHeartbeats 1000000 in
theorem readValue_any (g : Nat) (M C L : Int) (id : List Int) (a r : Value) (v : Int) (w : World) (h : MsgBlk w g M C L id a r) :
    Calls Try.prog 76 #[.pointer (some ⟨g, 0, none⟩), .int .u16 v] w fun e w' => e = .returned (.tuple #[]) ∧ ∃ x y, w' = (w.setCell ⟨g, 1, none⟩ (.int .u8 x)).setCell ⟨g, 0, none⟩ (.int .u16 y) := by
  have f := h.facts
  have c0 := f.1
  have c1 := f.2.1
  have f0 := h.free 0
  have f1 := h.free 1
  clear f h
  go_enter Try.func76, Try.ntmps76
  go_wp2_with fail
  go_end0
  exact ⟨rfl, _, _, rfl⟩
end Go.Proofs.Ythgghgejndncnaa
