/- 'spec.Message'. -/
import Derived.Test.YthgghgejndncnaaGreatValue
import Derived.Deep.MidRow
import Derived.Deep.LoopGhost
namespace Go.Proofs.YthgghgejndncnaaGreat
open Go.RowKit
set_option linter.unusedSimpArgs false
set_option linter.unusedVariables false

theorem rangeAt_blk {w : World} {g : Nat} {cs : List Value} {t : TypeId} {fr : Nat × Nat} (h : w.heap[g]? = some (.cells cs.toArray t fr)) : w.rangeAt g 0 cs := fun j v hv => by
  rw [blk_cell h, Nat.zero_add, List.getElem?_toArray]
  exact hv

/-- an attribute in a message -/
def attrB (t : Int) (v : List Int) : List Int := put2 t ++ put2 v.length ++ v ++ List.replicate (pad4 (4 + v.length) - (4 + v.length)) 0
/-- a message with one attribute -/
def msgB (t : Int) (id v : List Int) : List Int := [0, 1] ++ put2 (attrB t v).length ++ [33, 18, 164, 66] ++ id ++ attrB t v
theorem attrB_length (t : Int) (v : List Int) : (attrB t v).length = pad4 (4 + v.length) := by simp [attrB, put2, pad4]; omega
theorem typeB_rng (k : Int) : 0 ≤ typeB k ∧ typeB k ≤ 255 := by unfold typeB; repeat' split <;> omega

end Go.Proofs.YthgghgejndncnaaGreat
