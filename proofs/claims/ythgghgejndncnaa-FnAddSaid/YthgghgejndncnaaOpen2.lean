/- WHAT CAME IN: an attribute by value. -/
import Derived.Test.YthgghgejndncnaaOpen
namespace Go.Proofs.Ythgghgejndncnaa
open Go.Joins Go.ChangeShapes Go.WideShapes Go.ChangeAt Go.RowKit
set_option linter.unusedSimpArgs false
set_option linter.unusedVariables false

theorem open_bytes {H : Type} {enc : TypeId × Value → H} {W : World} {n : Nat} {v : Value} {y : DataW H × List MemPlace} (h : DataW.trod enc Try.prog W 0 (fun _ => true) true n 24 [v] = some y) :
    ∃ (A : Option Addr) (l c : Nat) (xs : List Int), v = .slice A l c ∧ xs.length = l ∧ l ≤ c ∧ Bys xs ∧ Rd W A xs := by
  obtain ⟨A, l, c, zs, rfl, w1⟩ : ∃ (A : Option Addr) (l c : Nat) (zs : List Int), v = .slice A l c ∧ IsRow .u8 W A l c zs := by
    rcases open_ints Try.underlying24 Try.underlying5 (by kernel_rfl) h with ⟨hcs, _⟩ | ⟨x, l, c, zs, hcs, _, hl, hm, hz, _, hcell, hwz⟩
    · simp at hcs
      exact ⟨none, 0, 0, [], hcs, .inl ⟨rfl, rfl, rfl, rfl⟩⟩
    · simp at hcs
      exact ⟨some x, l, c, zs, hcs, .inr ⟨_, rfl, hl, hm, by simpa using hz, hcell, hwz⟩⟩
  exact ⟨A, l, c, zs.take l, rfl, (isRow_len w1).1, (isRow_len w1).2, isRow_bys w1, isRow_rd w1⟩

set_option maxRecDepth 100000 in
theorem open_att {H : Type} {enc : TypeId × Value → H} {W : World} {r : Reach} {b0 : Nat} {v : Value} {d : DataW H} {p : List MemPlace} (hv : Value.okWide Try.prog W r b0 34 v) (h : DataW.Trod enc Try.prog W 0 (fun _ => true) true 34 v d p) :
    ∃ (N : Int) (aA : Option Addr) (an ac : Nat) (ax : List Int) (P : Int) (dA : Option Addr) (dn dc : Nat) (dx : List Int), v = atV N aA an ac P dA dn dc ∧ (0 ≤ N ∧ N ≤ 4294967295) ∧ ax.length = an ∧ an ≤ ac ∧ Bys ax ∧ Rd W aA ax ∧ dx.length = dn ∧ dn ≤ dc ∧ Bys dx ∧ Rd W dA dx := by
  obtain ⟨v0, v1, v2, v3, y0, y1, y2, y3, n, rfl, -, -, h0, h1, h2, h3⟩ := open_agg4 Try.underlying34 (by kernel_rfl) (by kernel_rfl) hv h
  obtain ⟨N, e0, -, w0⟩ := DataW.trod_int Try.underlying32 h0
  obtain ⟨P, e2, -, -⟩ := DataW.trod_int Try.underlying3 h2
  simp at e0 e2
  subst e0 e2
  obtain ⟨aA, an, ac, ax, rfl, a1, a2, a3, a4⟩ := open_bytes h1
  obtain ⟨dA, dn, dc, dx, rfl, c1, c2, c3, c4⟩ := open_bytes h3
  refine ⟨N, aA, an, ac, ax, P, dA, dn, dc, dx, rfl, ?_, a1, a2, a3, a4, c1, c2, c3, c4⟩
  have := bounds_u32 w0
  omega
end Go.Proofs.Ythgghgejndncnaa
