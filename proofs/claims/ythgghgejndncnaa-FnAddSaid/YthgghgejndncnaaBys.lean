/- lists of bytes. -/
import Derived.Test.YthgghgejndncnaaMem
namespace Go.Proofs.Ythgghgejndncnaa
set_option linter.unusedSimpArgs false
set_option linter.unusedVariables false

/-- every member is a byte -/
def Bys (xs : List Int) : Prop := ∀ x ∈ xs, 0 ≤ x ∧ x ≤ 255
theorem Bys.at_ {xs : List Int} (h : Bys xs) (j : Nat) : 0 ≤ xs.getD j 0 ∧ xs.getD j 0 ≤ 255 := by
  rw [List.getD_eq_getElem?_getD]
  rcases Nat.lt_or_ge j xs.length with hj | hj
  · rw [List.getElem?_eq_getElem hj]; exact h _ (List.getElem_mem hj)
  · rw [List.getElem?_eq_none hj]; simp

theorem getD_take (xs : List Int) (m j : Nat) (h : j < m) : (xs.take m).getD j 0 = xs.getD j 0 := by
  simp [List.getD_eq_getElem?_getD, List.getElem?_take, h]

theorem Bys.append {xs ys : List Int} (h : Bys xs) (k : Bys ys) : Bys (xs ++ ys) := fun x hx => by
  rcases List.mem_append.1 hx with h1 | h1
  · exact h x h1
  · exact k x h1
theorem Bys.take {xs : List Int} (h : Bys xs) (m : Nat) : Bys (xs.take m) := fun x hx => h x (List.mem_of_mem_take hx)
theorem Bys.drop {xs : List Int} (h : Bys xs) (m : Nat) : Bys (xs.drop m) := fun x hx => h x (List.mem_of_mem_drop hx)
theorem Bys.zeros (m : Nat) : Bys (List.replicate m 0) := fun x hx => by
  obtain rfl := (List.mem_replicate.1 hx).2
  omega

end Go.Proofs.Ythgghgejndncnaa
