/- 'impl.got': words. -/
import Derived.Test.YthgghgejndncnaaGreatGetC
import Derived.Test.YthgghgejndncnaaGreatM6
import Derived.Test.YthgghgejndncnaaGreatSame
import Derived.Test.YthgghgejndncnaaGreatM10
import Derived.Deep.RegionHeld3
import Derived.Deep.CutRange
import Derived.Deep.DeepCutAuto
namespace Go.Proofs.YthgghgejndncnaaGreat
open Go.RowKit
set_option linter.unusedSimpArgs false
set_option linter.unusedVariables false

/-- an attribute's value that reads as data -/
def AttIs (w : World) (v : Value) (N : Int) (ax : List Int) (P : Int) (dx : List Int) : Prop :=
  ∃ aA an ac dA dn dc, v = atV N aA an ac P dA dn dc ∧ ax.length = an ∧ an ≤ ac ∧ Rd w aA ax ∧ dx.length = dn ∧ dn ≤ dc ∧ Rd w dA dx ∧ (0 ≤ N ∧ N ≤ 4294967295)
theorem MsgHas.below {w w' : World} {g : Nat} {t : Int} {v id : List Int} (h : MsgHas w g t v id) (k : Below w.heap.size w w') : MsgHas w' g t v id := by
  obtain ⟨M, C, L, rw_, ab, cap, A, n, c, l, hg0, hcap, i0, i1, i2, hn, hnc, hR0⟩ := h
  have kk := Kept.of_below (S := []) k
  exact ⟨M, C, L, rw_, ab, cap, A, n, c, l, hg0.below k, hcap, kk.cell i0 (by simp), kk.cell i1 (by simp), kk.cell i2 (by simp), hn, hnc, hR0.below k⟩

def GotYes (k N : Int) (ax : List Int) (P : Int) (dx : List Int) (w : World) (e : Ending) (w' : World) : Prop :=
  ∃ v N' ax' P' dx', e = .returned (.tuple #[v, .bool true]) ∧ AttIs w' v N' ax' P' dx' ∧ properB k N' ax'.length ax' P' dx'.length = true ∧ valB k N' ax' P' dx' zeros12 = valB k N ax P dx zeros12 ∧ Below w.heap.size w w'

end Go.Proofs.YthgghgejndncnaaGreat
