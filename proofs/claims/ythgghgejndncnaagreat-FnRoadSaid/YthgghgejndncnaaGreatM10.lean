/- 'slices.Clone' AT FOUR TYPES OF SLICES OF BYTES: the clone is a row of the call's own that holds the same bytes. -/
import Derived.Test.YthgghgejndncnaaGreatM1
import Derived.WalkSpells
import Derived.WalkLawsBesides
import Derived.Defers
import Derived.Recover
namespace Go.Proofs.YthgghgejndncnaaGreat
open Go.RowKit
set_option linter.unusedSimpArgs false
set_option linter.unusedVariables false

theorem cloneB_any (A : Option Addr) (n c : Nat) (xs : List Int) (w : World) (hn : xs.length = n) (hl : n ≤ 999999) (h : Rd w A xs) :
    Calls Tryz.prog 18 #[.slice A n c] w fun e w' => ∃ v, e = .returned v ∧ w'.ownsRow w.heap.size 5 1 v n (nums xs) ∧ Below w.heap.size w w' := by
  cases A with
  | none =>
    have h0 : xs = [] := by
      rcases List.eq_nil_or_concat xs with h1 | ⟨l, y, rfl⟩
      · exact h1
      · obtain ⟨b, o, h, _⟩ := h (by simp)
        cases h
    subst h0
    have hn0 : n = 0 := by simpa using hn.symm
    subst hn0
    have he := fun w : World => Lib.run_eql_slice_nil (P := Tryz.prog) w 24 5 none 0 c 0 0 Tryz.underlying24
    clear h hn hl
    go_enter Tryz.func18, Tryz.ntmps18
    go_wp2
    go_ret
    exact ⟨_, rfl, World.ownsRow_nil _ _ _ _, Below.refl _ _⟩
  | some ad =>
    have he := fun w : World => Lib.run_eql_slice_nil (P := Tryz.prog) w 24 5 (some ad) n c 0 0 Tryz.underlying24
    have H := Lib.hid h
    have HN := Lib.hid hn
    clear h hn
    go_enter Tryz.func18, Tryz.ntmps18
    go_wp2_with (at_builtin; refine wp_app Tryz.underlying24 w.heap.size (w.alloc (.cells #[] 5)) rfl (.tmp 5) (.tmp 6) rfl (.slice (some ⟨w.heap.size, 0, none⟩) 0 0) [] xs 0 n (some ad) c rfl HN.out rfl rfl (own_lit w _ [] (Nat.le_refl _) (by simp [maxLen])) (H.out.alloc _) (by simp) (by omega) w ((Below.refl w.heap.size w).alloc (Nat.le_refl _) _) ?_; intro v1 w1 hown hB hg)
    go_ret
    exact ⟨_, rfl, by simpa using hown, hB⟩

theorem cloneIP_any (A : Option Addr) (n c : Nat) (xs : List Int) (w : World) (hn : xs.length = n) (hl : n ≤ 999999) (h : Rd w A xs) :
    Calls Tryz.prog 35 #[.slice A n c] w fun e w' => ∃ v, e = .returned v ∧ w'.ownsRow w.heap.size 5 1 v n (nums xs) ∧ Below w.heap.size w w' := by
  cases A with
  | none =>
    have h0 : xs = [] := by
      rcases List.eq_nil_or_concat xs with h1 | ⟨l, y, rfl⟩
      · exact h1
      · obtain ⟨b, o, h, _⟩ := h (by simp)
        cases h
    subst h0
    have hn0 : n = 0 := by simpa using hn.symm
    subst hn0
    have he := fun w : World => Lib.run_eql_slice_nil (P := Tryz.prog) w 68 5 none 0 c 0 0 Tryz.underlying68
    clear h hn hl
    go_enter Tryz.func35, Tryz.ntmps35
    go_wp2
    go_ret
    exact ⟨_, rfl, World.ownsRow_nil _ _ _ _, Below.refl _ _⟩
  | some ad =>
    have he := fun w : World => Lib.run_eql_slice_nil (P := Tryz.prog) w 68 5 (some ad) n c 0 0 Tryz.underlying68
    have H := Lib.hid h
    have HN := Lib.hid hn
    clear h hn
    go_enter Tryz.func35, Tryz.ntmps35
    go_wp2_with (at_builtin; refine wp_app Tryz.underlying68 w.heap.size (w.alloc (.cells #[] 5)) rfl (.tmp 5) (.tmp 6) rfl (.slice (some ⟨w.heap.size, 0, none⟩) 0 0) [] xs 0 n (some ad) c rfl HN.out rfl rfl (own_lit w _ [] (Nat.le_refl _) (by simp [maxLen])) (H.out.alloc _) (by simp) (by omega) w ((Below.refl w.heap.size w).alloc (Nat.le_refl _) _) ?_; intro v1 w1 hown hB hg)
    go_ret
    exact ⟨_, rfl, by simpa using hown, hB⟩

theorem cloneData_any (A : Option Addr) (n c : Nat) (xs : List Int) (w : World) (hn : xs.length = n) (hl : n ≤ 999999) (h : Rd w A xs) :
    Calls Tryz.prog 38 #[.slice A n c] w fun e w' => ∃ v, e = .returned v ∧ w'.ownsRow w.heap.size 5 1 v n (nums xs) ∧ Below w.heap.size w w' := by
  cases A with
  | none =>
    have h0 : xs = [] := by
      rcases List.eq_nil_or_concat xs with h1 | ⟨l, y, rfl⟩
      · exact h1
      · obtain ⟨b, o, h, _⟩ := h (by simp)
        cases h
    subst h0
    have hn0 : n = 0 := by simpa using hn.symm
    subst hn0
    have he := fun w : World => Lib.run_eql_slice_nil (P := Tryz.prog) w 72 5 none 0 c 0 0 Tryz.underlying72
    clear h hn hl
    go_enter Tryz.func38, Tryz.ntmps38
    go_wp2
    go_ret
    exact ⟨_, rfl, World.ownsRow_nil _ _ _ _, Below.refl _ _⟩
  | some ad =>
    have he := fun w : World => Lib.run_eql_slice_nil (P := Tryz.prog) w 72 5 (some ad) n c 0 0 Tryz.underlying72
    have H := Lib.hid h
    have HN := Lib.hid hn
    clear h hn
    go_enter Tryz.func38, Tryz.ntmps38
    go_wp2_with (at_builtin; refine wp_app Tryz.underlying72 w.heap.size (w.alloc (.cells #[] 5)) rfl (.tmp 5) (.tmp 6) rfl (.slice (some ⟨w.heap.size, 0, none⟩) 0 0) [] xs 0 n (some ad) c rfl HN.out rfl rfl (own_lit w _ [] (Nat.le_refl _) (by simp [maxLen])) (H.out.alloc _) (by simp) (by omega) w ((Below.refl w.heap.size w).alloc (Nat.le_refl _) _) ?_; intro v1 w1 hown hB hg)
    go_ret
    exact ⟨_, rfl, by simpa using hown, hB⟩

theorem cloneToken_any (A : Option Addr) (n c : Nat) (xs : List Int) (w : World) (hn : xs.length = n) (hl : n ≤ 999999) (h : Rd w A xs) :
    Calls Tryz.prog 41 #[.slice A n c] w fun e w' => ∃ v, e = .returned v ∧ w'.ownsRow w.heap.size 5 1 v n (nums xs) ∧ Below w.heap.size w w' := by
  cases A with
  | none =>
    have h0 : xs = [] := by
      rcases List.eq_nil_or_concat xs with h1 | ⟨l, y, rfl⟩
      · exact h1
      · obtain ⟨b, o, h, _⟩ := h (by simp)
        cases h
    subst h0
    have hn0 : n = 0 := by simpa using hn.symm
    subst hn0
    have he := fun w : World => Lib.run_eql_slice_nil (P := Tryz.prog) w 75 5 none 0 c 0 0 Tryz.underlying75
    clear h hn hl
    go_enter Tryz.func41, Tryz.ntmps41
    go_wp2
    go_ret
    exact ⟨_, rfl, World.ownsRow_nil _ _ _ _, Below.refl _ _⟩
  | some ad =>
    have he := fun w : World => Lib.run_eql_slice_nil (P := Tryz.prog) w 75 5 (some ad) n c 0 0 Tryz.underlying75
    have H := Lib.hid h
    have HN := Lib.hid hn
    clear h hn
    go_enter Tryz.func41, Tryz.ntmps41
    go_wp2_with (at_builtin; refine wp_app Tryz.underlying75 w.heap.size (w.alloc (.cells #[] 5)) rfl (.tmp 5) (.tmp 6) rfl (.slice (some ⟨w.heap.size, 0, none⟩) 0 0) [] xs 0 n (some ad) c rfl HN.out rfl rfl (own_lit w _ [] (Nat.le_refl _) (by simp [maxLen])) (H.out.alloc _) (by simp) (by omega) w ((Below.refl w.heap.size w).alloc (Nat.le_refl _) _) ?_; intro v1 w1 hown hB hg)
    go_ret
    exact ⟨_, rfl, by simpa using hown, hB⟩

end Go.Proofs.YthgghgejndncnaaGreat

/- 'impl.try': a call that neither panics nor turns the cell of the result comes back with its answer. -/
namespace Go.Proofs.YthgghgejndncnaaGreat
open Go.RowKit
set_option linter.unusedSimpArgs false
set_option linter.unusedVariables false

/-- the deferred closure where nothing panics -/
theorem try1_idle (p : Addr) (w : World) :
    CallsD Tryz.prog 26 #[.pointer (some p)] .returning w fun e u' w' => e = .returned (.tuple #[]) ∧ u' = .returning ∧ w' = w := by
  refine callsD_of_wpS Tryz.func26 rfl fun c₀ cs hu => ?_
  apply wpS_seq
  apply wpS_region
  simp [wpOpsS, go_sem, recoverD, hu, Tryz.ntmps26, Exit.thenS]
  refine wpS_cond (t := false) (by simp [Act.eval, Array.replicate]) ?_
  simp only [Bool.false_eq_true, if_false]
  refine wpS_of_wp (wp_skip ?_)
  cases c₀
  simp_all [bodyPostS, results, Tryz.results26]

set_option maxRecDepth 100000 in
theorem try_any (F : FuncId) (cap : Array Value) (w : World) (R : Bool → World → Prop) (hF : ∀ w : World, (callFunc F cap).run Tryz.prog w = .ok (.enter F cap) w)
    (h : Calls Tryz.prog F cap (w.alloc (.cells #[.bool false] 4)) fun e w' => ∃ b, e = .returned (.bool b) ∧ w'.heap[w.heap.size]? = some (.cells #[.bool false] 4 (0, 0)) ∧ R b w') :
    Calls Tryz.prog 14 #[.func (.func F) #[] cap] w fun e w' => ∃ b w1, e = .returned (.bool b) ∧ R b w1 ∧ w' = w1.setCell ⟨w.heap.size, 0, none⟩ (.bool b) := by
  have hmf : ∀ (fn : Fn) (first cap : Array Value) (w : World), (Instr.makeFunc fn first cap).run Tryz.prog w = .ok (.func fn first cap) w := fun _ _ _ _ => rfl
  have H := Lib.hid h
  clear h
  go_enter_defers Tryz.func14, Tryz.ntmps14
  go_wp2_with fail
  refine H.mono ?_
  rintro e w1 ⟨b, rfl, hb, hR⟩
  have HR := Lib.hid hR
  have HB := Lib.hid hb
  have hc : w1.cell? ⟨w.heap.size, 0, none⟩ = some (.bool false) := by rw [cell_of_row w1 w.heap.size 0 _ _ _ hb]; rfl
  have hf : w1.frozen? ⟨w.heap.size, 0, none⟩ = false := by simp [World.frozen?, hb]
  clear hb hR H
  go_wp2_with fail
  refine leaves_cons (f := 26) (args := #[.pointer (some ⟨w.heap.size, 0, none⟩)]) (by simp) (by simp [hF, go_sem]) ?_
  refine (try1_idle ⟨w.heap.size, 0, none⟩ _).mono ?_
  rintro e u' w'' ⟨rfl, rfl, rfl⟩
  have hc2 := World.cell?_setCell_same w1 ⟨w.heap.size, 0, none⟩ (.bool b) hc
  show Leaves Tryz.prog Tryz.f14 _ _ [] .returning _
  refine ⟨.bool b, by simp [results, Tryz.results14, go_sem, hc2], b, w1, rfl, HR, rfl⟩
end Go.Proofs.YthgghgejndncnaaGreat
