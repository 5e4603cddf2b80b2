/- A SLICE OF BYTES THAT CAME IN reads as a list of bytes. -/
import Derived.Test.YthgghgejndncnaaMem
import Derived.ProofKit
import Derived.OpenShut
namespace Go.Proofs.Ythgghgejndncnaa
open Go.ChangeShapes Go.WideShapes Go.ChangeAt Go.RowKit
set_option linter.unusedSimpArgs false
set_option linter.unusedVariables false

theorem seatOwn : ownKnob Try.prog.godebug = none := by kernel_rfl
theorem laidOut : laidOutB Try.prog = true := by kernel_rfl

/-- what is told of a slice of integers that came in: it is nil; or it leads to a row of 'cap' cells, the numbers 'zs' -/
def IsRow (k : IntKind) (w : World) (a : Option Addr) (len cap : Nat) (zs : List Int) : Prop :=
  (a = none ∧ len = 0 ∧ cap = 0 ∧ zs = []) ∨
  ∃ x, a = some x ∧ len ≤ cap ∧ cap ≤ maxLen ∧ zs.length = cap ∧ (∀ i, i < zs.length → w.cell? (x.add i) = some (.int k (zs.getD i 0))) ∧ ∀ n ∈ zs, (Lit.int k n).wf = true

theorem isRow_len {k : IntKind} {w : World} {a : Option Addr} {len cap : Nat} {zs : List Int} (h : IsRow k w a len cap zs) : (zs.take len).length = len ∧ len ≤ cap := by
  rcases h with ⟨rfl, rfl, rfl, rfl⟩ | ⟨x, rfl, hl, hm, hz, hc, hw⟩
  · simp
  · simp; omega

theorem spot_none {w : World} {x : Addr} {v : Value} (h : w.cell? x = some v) : x.spot = none := by
  unfold World.cell? at h
  split at h
  · split at h
    · cases h
    · cases hs : x.spot with
      | none => rfl
      | some _ => simp_all
  · cases h

theorem isRow_rd {w : World} {a : Option Addr} {len cap : Nat} {zs : List Int} (h : IsRow .u8 w a len cap zs) : Rd w a (zs.take len) := by
  rcases h with ⟨rfl, rfl, rfl, rfl⟩ | ⟨x, rfl, hl, hm, hz, hc, hw⟩
  · exact Rd.nil _ _
  · intro hne
    have hlen : 0 < zs.length := by
      rcases Nat.eq_zero_or_pos zs.length with h0 | h0
      · rw [List.eq_nil_of_length_eq_zero h0] at hne; simp at hne
      · exact h0
    have h0 := hc 0 hlen
    obtain ⟨b, o, s⟩ := x
    have hs := spot_none h0
    have e : s = none := by unfold Addr.add at hs; simpa using hs
    subst e
    refine ⟨b, o, rfl, fun j hj => ?_⟩
    have hj' : j < len := by simp at hj; omega
    have := hc j (by simp at hj; omega)
    rw [Addr.add_lit] at this
    rw [this]
    simp [List.getD_eq_getElem?_getD, List.getElem?_take, hj']

theorem isRow_bys {w : World} {a : Option Addr} {len cap : Nat} {zs : List Int} (h : IsRow .u8 w a len cap zs) : ∀ x ∈ zs.take len, 0 ≤ x ∧ x ≤ 255 := by
  rcases h with ⟨rfl, rfl, rfl, rfl⟩ | ⟨x, rfl, hl, hm, hz, hc, hw⟩
  · simp
  · intro x hx
    have := bounds_u8 (hw x (List.mem_of_mem_take hx))
    omega
end Go.Proofs.Ythgghgejndncnaa
