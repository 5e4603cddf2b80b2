/- 'impl.got' of each kind. -/
import Derived.Test.YthgghgejndncnaaGreatGot0
import Derived.Test.YthgghgejndncnaaGreatGot1
import Derived.Test.YthgghgejndncnaaGreatGot2
import Derived.Test.YthgghgejndncnaaGreatGot3
import Derived.Test.YthgghgejndncnaaGreatGot4
import Derived.Test.YthgghgejndncnaaGreatGot5
import Derived.Test.YthgghgejndncnaaGreatGot6
import Derived.Test.YthgghgejndncnaaGreatGot7
import Derived.Test.YthgghgejndncnaaGreatGot8
import Derived.Test.YthgghgejndncnaaGreatGot9
import Derived.Test.YthgghgejndncnaaGreatGot10
namespace Go.Proofs.YthgghgejndncnaaGreat
open Go.RowKit
set_option linter.unusedSimpArgs false
set_option linter.unusedVariables false

theorem got_yes (k : Int) (g : Nat) (N P : Int) (ax dx id : List Int) (w : World) (hk : 0 ≤ k ∧ k ≤ 10) (h : MsgHas w g (typeB k) (valB k N ax P dx id) id) (hp : properB k N ax.length ax P dx.length = true) (hN : 0 ≤ N ∧ N ≤ 4294967295) (hba : Bys ax) (hid : id.length = 12) (hbi : Bys id) :
    Calls Tryz.prog 21 #[.int .i64 k, .pointer (some ⟨g, 0, none⟩)] w fun e w' => GotYes k N ax P dx w e w' := by
  rcases kinds hk with rfl | rfl | rfl | rfl | rfl | rfl | rfl | rfl | rfl | rfl | rfl
  · simp [properB] at hp
    exact got_0_yes g N P ax dx id w (by simpa [typeB, valB] using h) (by omega)
  · exact got_1_yes g N P ax dx id w (by simpa [typeB, valB] using h) hN
  · simp [properB] at hp
    exact got_2_yes g ax.length N P ax dx id w (by simpa [typeB, valB] using h) (by omega) rfl (by omega) (fun h16 => by rcases hp.1.1 with h4 | h4 <;> first | omega | exact h4.2) hba hid hbi
  · simp [properB] at hp
    exact got_3_yes g ax.length N P ax dx id w (by simpa [typeB, valB] using h) (by omega) rfl (by omega) (fun h16 => by rcases hp.1.1 with h4 | h4 <;> first | omega | exact h4.2) hba hid hbi
  · simp [properB] at hp
    exact got_4_yes g N P ax dx id w (by simpa [typeB, valB] using h) (by omega)
  · simp [properB] at hp
    have : N = 0 ∨ N = 1 := by omega
    rcases this with rfl | rfl
    · exact got_5_0 g 0 P ax dx id w (by simpa [typeB, valB] using h) rfl
    · exact got_5_1 g 128 P ax dx id w (by simpa [typeB, valB] using h) (.inl rfl)
  · simp [properB] at hp
    exact got_6_yes g N P ax dx id w (by simpa [typeB, valB] using h) (by omega)
  · simp [properB] at hp
    exact got_7_yes g N P ax dx id w (by simpa [typeB, valB] using h) (by omega)
  · simp [properB] at hp
    exact got_8_yes g N P ax dx id w (by simpa [typeB, valB] using h) (by omega)
  · exact got_9_yes g N P ax dx id w (by simpa [typeB, valB] using h)
  · exact got_10_yes g N P ax dx id w (by simpa [typeB, valB] using h) hN

theorem got_no (k : Int) (g : Nat) (t : Int) (v id : List Int) (w : World) (hk : 0 ≤ k ∧ k ≤ 10) (h : MsgHas w g t v id) (ht : t ≠ typeB k) :
    Calls Tryz.prog 21 #[.int .i64 k, .pointer (some ⟨g, 0, none⟩)] w fun e w' => ∃ N' aA an ac P' dA dn dc, e = .returned (.tuple #[atV N' aA an ac P' dA dn dc, .bool false]) ∧ Below w.heap.size w w' := by
  rcases kinds hk with rfl | rfl | rfl | rfl | rfl | rfl | rfl | rfl | rfl | rfl | rfl
  · exact got_0_no g t v id w h (by simpa [typeB] using ht)
  · exact got_1_no g t v id w h (by simpa [typeB] using ht)
  · exact got_2_no g t v id w h (by simpa [typeB] using ht)
  · exact got_3_no g t v id w h (by simpa [typeB] using ht)
  · exact got_4_no g t v id w h (by simpa [typeB] using ht)
  · exact got_5_no g t v id w h (by simpa [typeB] using ht)
  · exact got_6_no g t v id w h (by simpa [typeB] using ht)
  · exact got_7_no g t v id w h (by simpa [typeB] using ht)
  · exact got_8_no g t v id w h (by simpa [typeB] using ht)
  · exact got_9_no g t v id w h (by simpa [typeB] using ht)
  · exact got_10_no g t v id w h (by simpa [typeB] using ht)
end Go.Proofs.YthgghgejndncnaaGreat
