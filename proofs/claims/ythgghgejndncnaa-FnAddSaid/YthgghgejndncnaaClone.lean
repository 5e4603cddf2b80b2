/- 'slices.Clone' AT FOUR TYPES OF SLICES OF BYTES: the clone is a row of the call's own that holds the same bytes. -/
import Derived.Test.YthgghgejndncnaaMem
import Derived.WalkSpells
import Derived.WalkLawsBesides
namespace Go.Proofs.Ythgghgejndncnaa
open Go.RowKit
set_option linter.unusedSimpArgs false
set_option linter.unusedVariables false

theorem cloneB_any (A : Option Addr) (n c : Nat) (xs : List Int) (w : World) (hn : xs.length = n) (hl : n ≤ 999999) (h : Rd w A xs) :
    Calls Try.prog 30 #[.slice A n c] w fun e w' => ∃ v, e = .returned v ∧ w'.ownsRow w.heap.size 5 1 v n (nums xs) ∧ Below w.heap.size w w' := by
  cases A with
  | none =>
    have h0 : xs = [] := by
      rcases List.eq_nil_or_concat xs with h1 | ⟨l, y, rfl⟩
      · exact h1
      · obtain ⟨b, o, h, _⟩ := h (by simp)
        cases h
    subst h0
    have hn0 : n = 0 := by simpa using hn.symm
    subst hn0
    have he := fun w : World => Lib.run_eql_slice_nil (P := Try.prog) w 24 5 none 0 c 0 0 Try.underlying24
    clear h hn hl
    go_enter Try.func30, Try.ntmps30
    go_wp2
    go_ret
    exact ⟨_, rfl, World.ownsRow_nil _ _ _ _, Below.refl _ _⟩
  | some ad =>
    have he := fun w : World => Lib.run_eql_slice_nil (P := Try.prog) w 24 5 (some ad) n c 0 0 Try.underlying24
    have H := Lib.hid h
    have HN := Lib.hid hn
    clear h hn
    go_enter Try.func30, Try.ntmps30
    go_wp2_with (at_builtin; refine wp_app Try.underlying24 w.heap.size (w.alloc (.cells #[] 5)) rfl (.tmp 5) (.tmp 6) rfl (.slice (some ⟨w.heap.size, 0, none⟩) 0 0) [] xs 0 n (some ad) c rfl HN.out rfl rfl (own_lit w _ [] (Nat.le_refl _) (by simp [maxLen])) (H.out.alloc _) (by simp) (by omega) w ((Below.refl w.heap.size w).alloc (Nat.le_refl _) _) ?_; intro v1 w1 hown hB hg)
    go_ret
    exact ⟨_, rfl, by simpa using hown, hB⟩

theorem cloneIP_any (A : Option Addr) (n c : Nat) (xs : List Int) (w : World) (hn : xs.length = n) (hl : n ≤ 999999) (h : Rd w A xs) :
    Calls Try.prog 54 #[.slice A n c] w fun e w' => ∃ v, e = .returned v ∧ w'.ownsRow w.heap.size 5 1 v n (nums xs) ∧ Below w.heap.size w w' := by
  cases A with
  | none =>
    have h0 : xs = [] := by
      rcases List.eq_nil_or_concat xs with h1 | ⟨l, y, rfl⟩
      · exact h1
      · obtain ⟨b, o, h, _⟩ := h (by simp)
        cases h
    subst h0
    have hn0 : n = 0 := by simpa using hn.symm
    subst hn0
    have he := fun w : World => Lib.run_eql_slice_nil (P := Try.prog) w 85 5 none 0 c 0 0 Try.underlying85
    clear h hn hl
    go_enter Try.func54, Try.ntmps54
    go_wp2
    go_ret
    exact ⟨_, rfl, World.ownsRow_nil _ _ _ _, Below.refl _ _⟩
  | some ad =>
    have he := fun w : World => Lib.run_eql_slice_nil (P := Try.prog) w 85 5 (some ad) n c 0 0 Try.underlying85
    have H := Lib.hid h
    have HN := Lib.hid hn
    clear h hn
    go_enter Try.func54, Try.ntmps54
    go_wp2_with (at_builtin; refine wp_app Try.underlying85 w.heap.size (w.alloc (.cells #[] 5)) rfl (.tmp 5) (.tmp 6) rfl (.slice (some ⟨w.heap.size, 0, none⟩) 0 0) [] xs 0 n (some ad) c rfl HN.out rfl rfl (own_lit w _ [] (Nat.le_refl _) (by simp [maxLen])) (H.out.alloc _) (by simp) (by omega) w ((Below.refl w.heap.size w).alloc (Nat.le_refl _) _) ?_; intro v1 w1 hown hB hg)
    go_ret
    exact ⟨_, rfl, by simpa using hown, hB⟩

theorem cloneData_any (A : Option Addr) (n c : Nat) (xs : List Int) (w : World) (hn : xs.length = n) (hl : n ≤ 999999) (h : Rd w A xs) :
    Calls Try.prog 57 #[.slice A n c] w fun e w' => ∃ v, e = .returned v ∧ w'.ownsRow w.heap.size 5 1 v n (nums xs) ∧ Below w.heap.size w w' := by
  cases A with
  | none =>
    have h0 : xs = [] := by
      rcases List.eq_nil_or_concat xs with h1 | ⟨l, y, rfl⟩
      · exact h1
      · obtain ⟨b, o, h, _⟩ := h (by simp)
        cases h
    subst h0
    have hn0 : n = 0 := by simpa using hn.symm
    subst hn0
    have he := fun w : World => Lib.run_eql_slice_nil (P := Try.prog) w 90 5 none 0 c 0 0 Try.underlying90
    clear h hn hl
    go_enter Try.func57, Try.ntmps57
    go_wp2
    go_ret
    exact ⟨_, rfl, World.ownsRow_nil _ _ _ _, Below.refl _ _⟩
  | some ad =>
    have he := fun w : World => Lib.run_eql_slice_nil (P := Try.prog) w 90 5 (some ad) n c 0 0 Try.underlying90
    have H := Lib.hid h
    have HN := Lib.hid hn
    clear h hn
    go_enter Try.func57, Try.ntmps57
    go_wp2_with (at_builtin; refine wp_app Try.underlying90 w.heap.size (w.alloc (.cells #[] 5)) rfl (.tmp 5) (.tmp 6) rfl (.slice (some ⟨w.heap.size, 0, none⟩) 0 0) [] xs 0 n (some ad) c rfl HN.out rfl rfl (own_lit w _ [] (Nat.le_refl _) (by simp [maxLen])) (H.out.alloc _) (by simp) (by omega) w ((Below.refl w.heap.size w).alloc (Nat.le_refl _) _) ?_; intro v1 w1 hown hB hg)
    go_ret
    exact ⟨_, rfl, by simpa using hown, hB⟩

theorem cloneToken_any (A : Option Addr) (n c : Nat) (xs : List Int) (w : World) (hn : xs.length = n) (hl : n ≤ 999999) (h : Rd w A xs) :
    Calls Try.prog 60 #[.slice A n c] w fun e w' => ∃ v, e = .returned v ∧ w'.ownsRow w.heap.size 5 1 v n (nums xs) ∧ Below w.heap.size w w' := by
  cases A with
  | none =>
    have h0 : xs = [] := by
      rcases List.eq_nil_or_concat xs with h1 | ⟨l, y, rfl⟩
      · exact h1
      · obtain ⟨b, o, h, _⟩ := h (by simp)
        cases h
    subst h0
    have hn0 : n = 0 := by simpa using hn.symm
    subst hn0
    have he := fun w : World => Lib.run_eql_slice_nil (P := Try.prog) w 94 5 none 0 c 0 0 Try.underlying94
    clear h hn hl
    go_enter Try.func60, Try.ntmps60
    go_wp2
    go_ret
    exact ⟨_, rfl, World.ownsRow_nil _ _ _ _, Below.refl _ _⟩
  | some ad =>
    have he := fun w : World => Lib.run_eql_slice_nil (P := Try.prog) w 94 5 (some ad) n c 0 0 Try.underlying94
    have H := Lib.hid h
    have HN := Lib.hid hn
    clear h hn
    go_enter Try.func60, Try.ntmps60
    go_wp2_with (at_builtin; refine wp_app Try.underlying94 w.heap.size (w.alloc (.cells #[] 5)) rfl (.tmp 5) (.tmp 6) rfl (.slice (some ⟨w.heap.size, 0, none⟩) 0 0) [] xs 0 n (some ad) c rfl HN.out rfl rfl (own_lit w _ [] (Nat.le_refl _) (by simp [maxLen])) (H.out.alloc _) (by simp) (by omega) w ((Below.refl w.heap.size w).alloc (Nat.le_refl _) _) ?_; intro v1 w1 hown hB hg)
    go_ret
    exact ⟨_, rfl, by simpa using hown, hB⟩

end Go.Proofs.Ythgghgejndncnaa
