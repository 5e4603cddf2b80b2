/- 'stun.Decode'. -/
import Derived.Test.YthgghgejndncnaaDec
namespace Go.Proofs.Ythgghgejndncnaa
open Go.RowKit
set_option linter.unusedSimpArgs false
set_option linter.unusedVariables false

theorem own_empty {w : World} {r c : Nat} {cur : Array Value} (h : w.heap[r]? = some (.cells cur 5 (0, 0))) (hc : cur.size = c) (hm : c ≤ 1000000) : w.ownsRow r 5 1 (.slice (some ⟨r, 0, none⟩) 0 c) 0 (nums []) :=
  ⟨rfl, .inr ⟨r, c, cur, rfl, Nat.le_refl _, h, Nat.zero_le _, by simp only [maxLen]; omega, by omega, by simp [nums]⟩⟩

set_option maxHeartbeats 2000000 in
theorem sDecode_any (g r n c l : Nat) (cur : Array Value) (A : Option Addr) (m0 m1 t : Int) (id v idz : List Int) (w : World) (hg : MsgBlk w g 0 0 0 idz (.slice none 0 0) (.slice (some ⟨r, 0, none⟩) 20 120))
    (hr : w.heap[r]? = some (.cells cur 5 (0, 0))) (hcur : cur.size = 120) (hrg : r ≠ g) (hid : id.length = 12) (hv : v.length = l) (hl : l ≤ 1000)
    (ht : 0 ≤ t ∧ t ≤ 255) (ht8 : t ≠ 8) (ht28 : t ≠ 28) (hm0 : 0 ≤ m0 ∧ m0 ≤ 255) (hm1 : 0 ≤ m1 ∧ m1 ≤ 255) (hn : n = 24 + pad4 l) (hnc : n ≤ c) (hR : Rd w A (msgH m0 m1 t id v)) :
    Calls Try.prog 37 #[.slice A n c, .pointer (some ⟨g, 0, none⟩)] w fun e w' => e = .returned .nilIface ∧ MsgHas w' g t v id ∧ Kept [g, r] w w' := by
  have hp4 : pad4 (4 + l) = 4 + pad4 l := by unfold pad4; omega
  have hrl : (msgH m0 m1 t id v).length = n := by simp [msgH, put2, attrB_length, hid, hv, hp4]; omega
  have hn2 : n ≤ 2000 := by have : pad4 l ≤ l + 3 := by unfold pad4; omega
                            omega
  have c16 := hg.facts.2.2.2.2.1
  have f16 := hg.free 16
  have HR := Lib.hid hR
  have HL := Lib.hid hrl
  have HG := Lib.hid hg
  have HO := Lib.hid (own_empty hr hcur (by omega))
  have HV := Lib.hid (And.intro hid (And.intro hv (And.intro ht8 ht28)))
  have HX := Lib.hid (And.intro ht (And.intro hm0 (And.intro hm1 hn)))
  have hrl := blk_lt hr
  have hgl := hg.lt
  clear hR hg hr hid hv ht8 ht28 hm0 hm1 hn ht hp4
  go_enter Try.func37, Try.ntmps37
  go_wp2_with (at_builtin; refine wp_app Try.underlying24 r w rfl (.tmp 13) (.tmp 14) rfl (.slice (some ⟨r, 0, none⟩) 0 120) [] (msgH m0 m1 t id v) 0 n A c rfl HL.out rfl rfl HO.out HR.out (by omega) (by omega) w (Below.refl _ _) ?_; intro v1 w1 hown1 hB1 hg1; have hk1 : Kept [r] w w1 := Kept.of_grown hg1.out.1 (fun b e => .inl (by injection e with e; simp [← e])); have hgg := HG.out.kept hk1 (by simpa using (fun e => hrg e.symm)); have c16' := hgg.facts.2.2.2.2.1; have f16' := hgg.free 16; have HG' := Lib.hid hgg; have HK1 := Lib.hid hk1; have HO1 := Lib.hid hown1; obtain ⟨-, A1, c1, rfl, hc1, hcm1, hR1⟩ := own_rd hown1; have HR1 := Lib.hid hR1; clear hown1 hgg hk1 hB1 hR1)
  clear c16 f16 c16' f16'
  have hA1 : ∀ a, A1 = some a → a.block ≠ g := by
    intro a e
    subst e
    rcases hg1.out.2 with h | h
    · have h' : some a.block = some r := h
      injection h' with h'
      rw [h']; exact hrg
    · have h' : some a.block = some w.heap.size := h
      injection h' with h'
      omega
  have hk2 : Kept [g, r] w (w1.setCell ⟨g, 16, none⟩ (.slice A1 (0 + n) c1)) := (HK1.out.mono (by simp)).setCell (.inl (by simp)) _
  have HK2 := Lib.hid hk2
  have hg2 := HG'.out.set16 (.slice A1 (0 + n) c1)
  have hR2 : Rd (w1.setCell ⟨g, 16, none⟩ (.slice A1 (0 + n) c1)) A1 (msgH m0 m1 t id v) := HR1.out.setCell _ _ hA1
  clear hk2
  rw [Nat.zero_add] at *
  refine (mDecode_any g n c1 l A1 m0 m1 t id v idz _ ?_ HV.out.1 HV.out.2.1 hl HX.out.1 HV.out.2.2.1 HV.out.2.2.2 HX.out.2.1 HX.out.2.2.1 HX.out.2.2.2 hc1 ?_ hA1).mono ?_
  · exact hg2
  · exact hR2
  rintro e w3 ⟨rfl, hm3, hk3⟩
  have HF := Lib.hid (And.intro hm3 (HK2.out.trans hk3 (by simp)))
  clear hm3 hk3 hg2 hR2
  go_wp2_with fail
  go_ret
  exact ⟨rfl, HF.out.1, HF.out.2⟩
end Go.Proofs.Ythgghgejndncnaa
