/- THE REFERENCE'S SMALL FUNCTIONS: put, cookie, Type; the padded length. -/
import Derived.Test.YthgghgejndncnaaBase
import Derived.Handy
namespace Go.Proofs.Ythgghgejndncnaa
open Go.RowKit
set_option linter.unusedSimpArgs false
set_option linter.unusedVariables false

/-- 'spec.put(n, 2)' -/
theorem put2_any (v : Int) (w : World) (hv : 0 ≤ v ∧ v ≤ 4294967295) :
    Calls Try.prog 27 #[.int .u32 v, .int .i64 2] w fun e w' => e = .returned (.slice (some ⟨w.heap.size, 0, none⟩) 2 2) ∧ w' = w.alloc (.cells #[.int .u8 (v / 256 % 256), .int .u8 (v % 256)] 5) := by
  have hmk : ∀ w, (Instr.makeSlice 24 (.int .i64 2) (.int .i64 2)).run Try.prog w = .ok (.slice (some ⟨w.heap.size, 0, none⟩) 2 2) (w.alloc (.cells #[.int .u8 0, .int .u8 0] 5)) := fun _ => by kernel_rfl
  go_enter Try.func27, Try.ntmps27
  go_wp2
  go_rounds 3
  go_ret
  exact ⟨rfl, rfl⟩

/-- 'spec.put(n, 4)' -/
theorem put4_any (v : Int) (w : World) (hv : 0 ≤ v ∧ v ≤ 4294967295) :
    Calls Try.prog 27 #[.int .u32 v, .int .i64 4] w fun e w' => e = .returned (.slice (some ⟨w.heap.size, 0, none⟩) 4 4) ∧
      w' = w.alloc (.cells #[.int .u8 (v / 256 / 256 / 256), .int .u8 (v / 256 / 256 % 256), .int .u8 (v / 256 % 256), .int .u8 (v % 256)] 5) := by
  have hmk : ∀ w, (Instr.makeSlice 24 (.int .i64 4) (.int .i64 4)).run Try.prog w = .ok (.slice (some ⟨w.heap.size, 0, none⟩) 4 4) (w.alloc (.cells #[.int .u8 0, .int .u8 0, .int .u8 0, .int .u8 0] 5)) := fun _ => by kernel_rfl
  go_enter Try.func27, Try.ntmps27
  go_wp2
  go_rounds 5
  go_ret
  exact ⟨rfl, rfl⟩

/-- 'spec.cookie()' -/
theorem cookie_any (w : World) :
    Calls Try.prog 40 #[] w fun e w' => e = .returned (.slice (some ⟨w.heap.size, 0, none⟩) 4 4) ∧ w' = w.alloc (.cells #[.int .u8 33, .int .u8 18, .int .u8 164, .int .u8 66] 5) := by
  go_enter Try.func40, Try.ntmps40
  go_wp2
  go_ret
  exact ⟨rfl, rfl⟩

/-- the next multiple of four -/
def pad4 (l : Nat) : Nat := (l + 3) / 4 * 4

/-- 'nearestPaddedValueLength(l)' (turn) -/
theorem tpad_any (m : Int) (l : Nat) (w : World) (hm : m = l) (hl : l ≤ 1000000) :
    Calls Try.prog 49 #[.int .i64 m] w fun e w' => e = .returned (.int .i64 (pad4 l)) ∧ w = w' := by
  subst hm
  by_cases h : 4 * ((l : Int) / 4) < l
  all_goals
    go_enter Try.func49, Try.ntmps49
    go_wp2
    go_ret
    exact ⟨ret_int (by unfold pad4; omega), rfl⟩

/-- 'nearestPaddedValueLength(l)' (stun) -/
theorem spad_any (m : Int) (l : Nat) (w : World) (hm : m = l) (hl : l ≤ 1000000) :
    Calls Try.prog 78 #[.int .i64 m] w fun e w' => e = .returned (.int .i64 (pad4 l)) ∧ w = w' := by
  subst hm
  by_cases h : 4 * ((l : Int) / 4) < l
  all_goals
    go_enter Try.func78, Try.ntmps78
    go_wp2
    go_ret
    exact ⟨ret_int (by unfold pad4; omega), rfl⟩

end Go.Proofs.Ythgghgejndncnaa
