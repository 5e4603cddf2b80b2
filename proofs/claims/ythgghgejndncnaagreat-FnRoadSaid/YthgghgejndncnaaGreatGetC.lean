/- GetFrom of the peer's and the relayed address. -/
import Derived.Test.YthgghgejndncnaaGreatGfa4
import Derived.Test.YthgghgejndncnaaGreatGfa16
namespace Go.Proofs.YthgghgejndncnaaGreat
open Go.RowKit
set_option linter.unusedSimpArgs false
set_option linter.unusedVariables false

theorem getFromAs_no (g r : Nat) (t t' : Int) (v id : List Int) (w : World) (h : MsgHas w g t v id) (ht : t ≠ t') :
    Calls Tryz.prog 62 #[.pointer (some ⟨r, 0, none⟩), .pointer (some ⟨g, 0, none⟩), .int .u16 t'] w fun e w' => ∃ u x, e = .returned (.iface u x) ∧ Below w.heap.size w w' := by
  have H := Lib.hid h
  clear h
  go_enter Tryz.func62, Tryz.ntmps62
  go_wp2_with (go_at_call 58; refine (mGet_no g t t' v id _ H.out ht).mono ?_; rintro e w1 ⟨u, x, rfl, hB⟩)
  go_ret
  exact ⟨_, _, rfl, hB⟩

theorem fam_4 : fam 4 = 1 := rfl
theorem fam_16 : fam 16 = 2 := rfl

/-- the value of an address, read -/
theorem getFromAs_yes (g r n : Nat) (t P : Int) (T : TypeId) (ax id : List Int) (w0 w : World) (h : MsgHas w0 g t ([0, fam ax.length, x8 (P / 256 % 256) 33, x8 (P % 256) 18] ++ xorL ax (mask id)) id) (hB0 : Below w0.heap.size w0 w) (hr : w.heap[r]? = some (.cells #[.slice none 0 0, .int .i64 0] T (0, 0))) (hr0 : w0.heap.size ≤ r)
    (hP : 0 ≤ P ∧ P ≤ 65535) (hax : ax.length = n) (hn : n = 4 ∨ n = 16) (hba : Bys ax) (hid : id.length = 12) (hbi : Bys id) :
    Calls Tryz.prog 62 #[.pointer (some ⟨r, 0, none⟩), .pointer (some ⟨g, 0, none⟩), .int .u16 t] w fun e w' => e = .returned .nilIface ∧ ∃ d, w'.heap[r]? = some (.cells #[.slice (some ⟨d, 0, none⟩) n n, .int .i64 P] T (0, 0)) ∧ Rd w' (some ⟨d, 0, none⟩) ax ∧ Kept [r] w w' := by
  rcases hn with rfl | rfl
  · rw [hax, fam_4] at h
    exact getFromAs_4 g r t P T ax id w0 w h hB0 hr hr0 hP hax hba hid hbi
  · rw [hax, fam_16] at h
    exact getFromAs_16 g r t P T ax id w0 w h hB0 hr hr0 hP hax hba hid hbi

theorem gPeer_yes (g r n : Nat) (P : Int) (ax id : List Int) (w0 w : World) (h : MsgHas w0 g 18 ([0, fam ax.length, x8 (P / 256 % 256) 33, x8 (P % 256) 18] ++ xorL ax (mask id)) id) (hB0 : Below w0.heap.size w0 w) (hr : w.heap[r]? = some (.cells #[.slice none 0 0, .int .i64 0] 70 (0, 0))) (hr0 : w0.heap.size ≤ r)
    (hP : 0 ≤ P ∧ P ≤ 65535) (hax : ax.length = n) (hn : n = 4 ∨ n = 16) (hba : Bys ax) (hid : id.length = 12) (hbi : Bys id) :
    Calls Tryz.prog 34 #[.pointer (some ⟨r, 0, none⟩), .pointer (some ⟨g, 0, none⟩)] w fun e w' => e = .returned .nilIface ∧ ∃ d, w'.heap[r]? = some (.cells #[.slice (some ⟨d, 0, none⟩) n n, .int .i64 P] 70 (0, 0)) ∧ Rd w' (some ⟨d, 0, none⟩) ax ∧ Kept [r] w w' := by
  have H := Lib.hid h
  have HB := Lib.hid hB0
  have HR := Lib.hid hr
  have HX := Lib.hid (And.intro hax (And.intro hba (And.intro hid hbi)))
  clear h hB0 hr hax hba hid hbi
  go_enter Tryz.func34, Tryz.ntmps34
  go_wp2_with (go_at_call 62; refine (getFromAs_yes g r n 18 P 70 ax id w0 _ H.out HB.out HR.out hr0 hP HX.out.1 hn HX.out.2.1 HX.out.2.2.1 HX.out.2.2.2).mono ?_; rintro e w1 ⟨rfl, d, h1, h2, h3⟩; have HF := Lib.hid (And.intro h1 (And.intro h2 h3)); clear h1 h2 h3)
  go_ret
  exact ⟨rfl, d, HF.out.1, HF.out.2.1, HF.out.2.2⟩

theorem gPeer_no (g r : Nat) (t : Int) (v id : List Int) (w : World) (h : MsgHas w g t v id) (ht : t ≠ 18) :
    Calls Tryz.prog 34 #[.pointer (some ⟨r, 0, none⟩), .pointer (some ⟨g, 0, none⟩)] w fun e w' => ∃ u x, e = .returned (.iface u x) ∧ Below w.heap.size w w' := by
  have H := Lib.hid h
  clear h
  go_enter Tryz.func34, Tryz.ntmps34
  go_wp2_with (go_at_call 62; refine (getFromAs_no g r t 18 v id _ H.out ht).mono ?_; rintro e w1 ⟨u, x, rfl, hB⟩)
  go_ret
  exact ⟨_, _, rfl, hB⟩

theorem gRelayed_yes (g r n : Nat) (P : Int) (ax id : List Int) (w0 w : World) (h : MsgHas w0 g 22 ([0, fam ax.length, x8 (P / 256 % 256) 33, x8 (P % 256) 18] ++ xorL ax (mask id)) id) (hB0 : Below w0.heap.size w0 w) (hr : w.heap[r]? = some (.cells #[.slice none 0 0, .int .i64 0] 71 (0, 0))) (hr0 : w0.heap.size ≤ r)
    (hP : 0 ≤ P ∧ P ≤ 65535) (hax : ax.length = n) (hn : n = 4 ∨ n = 16) (hba : Bys ax) (hid : id.length = 12) (hbi : Bys id) :
    Calls Tryz.prog 36 #[.pointer (some ⟨r, 0, none⟩), .pointer (some ⟨g, 0, none⟩)] w fun e w' => e = .returned .nilIface ∧ ∃ d, w'.heap[r]? = some (.cells #[.slice (some ⟨d, 0, none⟩) n n, .int .i64 P] 71 (0, 0)) ∧ Rd w' (some ⟨d, 0, none⟩) ax ∧ Kept [r] w w' := by
  have H := Lib.hid h
  have HB := Lib.hid hB0
  have HR := Lib.hid hr
  have HX := Lib.hid (And.intro hax (And.intro hba (And.intro hid hbi)))
  clear h hB0 hr hax hba hid hbi
  go_enter Tryz.func36, Tryz.ntmps36
  go_wp2_with (go_at_call 62; refine (getFromAs_yes g r n 22 P 71 ax id w0 _ H.out HB.out HR.out hr0 hP HX.out.1 hn HX.out.2.1 HX.out.2.2.1 HX.out.2.2.2).mono ?_; rintro e w1 ⟨rfl, d, h1, h2, h3⟩; have HF := Lib.hid (And.intro h1 (And.intro h2 h3)); clear h1 h2 h3)
  go_ret
  exact ⟨rfl, d, HF.out.1, HF.out.2.1, HF.out.2.2⟩

theorem gRelayed_no (g r : Nat) (t : Int) (v id : List Int) (w : World) (h : MsgHas w g t v id) (ht : t ≠ 22) :
    Calls Tryz.prog 36 #[.pointer (some ⟨r, 0, none⟩), .pointer (some ⟨g, 0, none⟩)] w fun e w' => ∃ u x, e = .returned (.iface u x) ∧ Below w.heap.size w w' := by
  have H := Lib.hid h
  clear h
  go_enter Tryz.func36, Tryz.ntmps36
  go_wp2_with (go_at_call 62; refine (getFromAs_no g r t 22 v id _ H.out ht).mono ?_; rintro e w1 ⟨u, x, rfl, hB⟩)
  go_ret
  exact ⟨_, _, rfl, hB⟩

end Go.Proofs.YthgghgejndncnaaGreat
