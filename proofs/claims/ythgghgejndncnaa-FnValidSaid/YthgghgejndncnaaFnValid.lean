/- 'laws.FnValid' returns true for every number, and changes nothing: no condition. -/
import Derived.Test.YthgghgejndncnaaBase
import Derived.ProofKit
import Derived.OpenShut
namespace Go.Proofs.Ythgghgejndncnaa
open Go.ChangeShapes Go.WideShapes Go.ChangeAt Go.RowKit
set_option linter.unusedSimpArgs false
set_option linter.unusedVariables false

theorem fnValid_any (n : Int) (w : World) :
    Calls Try.prog 3 #[.int .i64 n] w fun e w' => e = .returned (.bool true) ∧ w = w' := by
  by_cases h0 : n < 0
  · have d0 : decide (n < 0) = true := decide_eq_true h0
    go_enter Try.func3, Try.ntmps3
    go_wp2_with (go_at_call 11; refine (works_true _).mono ?_; rintro e w' ⟨rfl, rfl⟩)
    go_ret
    exact ⟨rfl, rfl⟩
  · have d0 : decide (n < 0) = false := decide_eq_false h0
    by_cases h1 : 65535 < n
    · have d1 : decide (65535 < n) = true := decide_eq_true h1
      go_enter Try.func3, Try.ntmps3
      go_wp2_with (go_at_call 11; refine (works_true _).mono ?_; rintro e w' ⟨rfl, rfl⟩)
      go_ret
      exact ⟨rfl, rfl⟩
    · have d1 : decide (65535 < n) = false := decide_eq_false h1
      have hq : ∀ (b : Bool) (w : World), (binOp .eql 4 (.bool b) (.bool b)).run Try.prog w = .ok (.bool true) w := by
        intro b w; cases b <;> kernel_rfl
      go_enter Try.func3, Try.ntmps3
      go_wp2_with (first | (go_at_call 11; refine (works_true _).mono ?_; rintro e w' ⟨rfl, rfl⟩) | (go_at_call 9; refine (vChannel_in _ _ (by omega) (by omega)).mono ?_; rintro e w' ⟨rfl, rfl⟩) | (go_at_call 10; refine (sValid_any _ _).mono ?_; rintro e w' ⟨rfl, rfl⟩))
      go_ret
      exact ⟨rfl, rfl⟩

theorem seatOwn : ownKnob Try.prog.godebug = none := by kernel_rfl

set_option maxRecDepth 100000 in
theorem fnValid_lifted (os : Os) (started : os.Started) (H : Type) (enc : TypeId × Value → H) :
    ReturnsInHanded {} Try.checked os 3 .any (Rows.fnValidSpec.pre6 enc Try.prog Try.f3 Rows.fnValidRow.domain false) (Rows.fnValidSpec.post enc Try.prog Try.f3 false true false false) := by
  refine returnsInHanded_of_change (C := Try.checked) seatOwn started (by kernel_rfl) Try.func3
    (ChangeSpec.witness6 (enc := enc) (C := Try.checked) false ⟨#[], #[.int .i64 0], []⟩ 8 (by kernel_rfl) (by kernel_rfl) (by kernel_rfl) (by kernel_rfl)) ?_
  intro W base args ds gs before hval0 hW hcnd _
  have hval : ∀ (j : Nat) t v, Try.f3.params[j]? = some t → args[j]? = some v → Value.okWide Try.prog W .any base t v := hval0
  have hW' := hW
  obtain ⟨p, q, hA0, hV, rfl, hfz, hnd⟩ := hW
  have hA : DataW.TrodAll enc Try.prog W 0 (fun _ => true) true Try.f3.params.toList args.toList ds p := hA0
  rw [Try.params3] at hA hval
  obtain ⟨v0, vs0, d0, ds0, p0, q0, hargs, rfl, rfl, h0, r0⟩ := trodAll_cons hA
  obtain ⟨rfl, rfl, rfl⟩ := trodAll_nil r0
  obtain rfl : args = #[v0] := by cases args; simp_all
  obtain ⟨rfl, rfl⟩ := trodVars_none hV
  obtain ⟨a0, rfl, rfl, rfl, w0⟩ := open_int Try.underlying3 (hval 0 3 v0 rfl rfl) h0
  clear hA0 hval0
  simp only [List.append_nil] at hW'
  refine (fnValid_any a0 W).mono fun e W' ⟨he, hg⟩ => ?_
  subst he; subst hg
  exact ⟨_, rfl, post_of_same (pa := []) (pv := []) hW' (fun _ _ _ => (trodAll_cons_mk (shut_bool Try.underlying4 _) trodAll_mk0)) (fun sp _ => (trodAll_cons_mk (shut_int Try.underlying3 w0) trodAll_mk0)) (fun _ _ => rfl) rfl
    (World.keptBut_refl _ _) (fun _ => rfl) (ok_one (by kernel_rfl) rfl (okWide_bool_mk Try.underlying4 _))⟩

theorem fnValid_over : Rows.fnValidRow.holds Try.pinned (OpenSpec.ofChange Rows.fnValidSpec) :=
  OpenClaim.holds_of_wide 3 Try.f3 rfl rfl rfl rfl rfl rfl rfl ⟨rfl, rfl, rfl, rfl, rfl⟩ rfl rfl rfl rfl rfl (by kernel_rfl) Try.func3 (by kernel_rfl)
    (of_decide_eq_true (by kernel_rfl)) (by unfold Func.isWrapper; first | (rw [if_pos (by decide +kernel)]; kernel_rfl) | (rw [if_neg (by decide +kernel)]; exact ⟨rfl, rfl⟩))
    (fun os started H enc _ => fnValid_lifted os started H enc)

/-- ████ THE STATEMENT ████ -/
theorem fnValid_holds : Rows.FnValidSaid :=
  fnValid_over

end Go.Proofs.Ythgghgejndncnaa
