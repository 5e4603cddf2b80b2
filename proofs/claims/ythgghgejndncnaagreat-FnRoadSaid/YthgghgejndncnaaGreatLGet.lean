/- 'laws.FnGet': the walk. -/
import Derived.Test.YthgghgejndncnaaGreatGet
import Derived.Test.YthgghgejndncnaaGreatGotAll
namespace Go.Proofs.YthgghgejndncnaaGreat
open Go.RowKit
set_option linter.unusedSimpArgs false
set_option linter.unusedVariables false

theorem proper_addr {k N : Int} {an : Nat} {ax : List Int} {P : Int} {dn : Nat} (h : properB k N an ax P dn = true) : k = 2 ∨ k = 3 → (0 ≤ P ∧ P ≤ 65535) ∧ (an = 4 ∨ an = 16) := by
  rintro (rfl | rfl)
  · simp [properB] at h; refine ⟨by omega, ?_⟩; rcases h.1.1 with h1 | h1 <;> omega
  · simp [properB] at h; refine ⟨by omega, ?_⟩; rcases h.1.1 with h1 | h1 <;> omega
theorem valB_len {k N : Int} {ax : List Int} {P : Int} {dx id : List Int} (h : properB k N ax.length ax P dx.length = true) (hid : id.length = 12) (hk : 0 ≤ k ∧ k ≤ 10) : (valB k N ax P dx id).length ≤ 1000 := by
  have hx : (xorL ax (mask id)).length ≤ 16 := by rw [xorL_length]; simp [mask, hid]; omega
  rcases kinds hk with rfl | rfl | rfl | rfl | rfl | rfl | rfl | rfl | rfl | rfl | rfl
  · simp [valB, put2]
  · simp [valB, put4]
  · simp [valB]; omega
  · simp [valB]; omega
  · simp [properB] at h; simp [valB]; omega
  · simp [valB]
  · simp [properB] at h; simp [valB]; omega
  · simp [valB]
  · simp [valB]
  · simp [valB]
  · simp [valB, put4]
theorem isMsg_msgB {k N : Int} {ax : List Int} {P : Int} {dx id : List Int} (h : properB k N ax.length ax P dx.length = true) (hid : id.length = 12) (hk : 0 ≤ k ∧ k ≤ 10) :
    IsMsg (msgB (typeB k) id (valB k N ax P dx id)) (typeB k) (valB k N ax P dx id) id := by
  refine ⟨⟨0, 1, rfl, by omega, by omega⟩, hid, valB_len h hid hk, typeB_rng k, ?_, ?_⟩
  · unfold typeB; repeat' split <;> omega
  · unfold typeB; repeat' split <;> omega

end Go.Proofs.YthgghgejndncnaaGreat
