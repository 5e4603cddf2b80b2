/- 'laws.FnRoad' returns true for every input, and changes nothing that was there: no condition. -/
import Derived.Test.YthgghgejndncnaaGreatM9
import Derived.Test.YthgghgejndncnaaGreatM8
import Derived.ShutString
import Derived.ChangeOld
namespace Go.Proofs.YthgghgejndncnaaGreat
open Go.Joins Go.ChangeShapes Go.WideShapes Go.ChangeAt Go.RowKit
set_option linter.unusedSimpArgs false
set_option linter.unusedVariables false

set_option maxRecDepth 100000 in
theorem fnRoad_lifted (os : Os) (started : os.Started) (H : Type) (enc : TypeId × Value → H) :
    ReturnsInHanded {} Tryz.checked os 3 .any (Rows.fnRoadSpec.pre6 enc Tryz.prog Tryz.f3 Rows.fnRoadRow.domain false) (Rows.fnRoadSpec.post enc Tryz.prog Tryz.f3 false true false false) := by
  refine returnsInHanded_of_change (C := Tryz.checked) seatOwn started (by kernel_rfl) Tryz.func3
    (ChangeSpec.witness6 (enc := enc) (C := Tryz.checked) false ⟨#[], #[.int .i64 0, .agg #[.int .u8 0, .int .u8 0, .int .u8 0, .int .u8 0, .int .u8 0, .int .u8 0, .int .u8 0, .int .u8 0, .int .u8 0, .int .u8 0, .int .u8 0, .int .u8 0], .agg #[.int .u32 0, .slice none 0 0, .int .i64 0, .slice none 0 0]], []⟩ 8 (by kernel_rfl) (by kernel_rfl) (by kernel_rfl) (by kernel_rfl)) ?_
  intro W base args ds gs before hval0 hW hcnd _
  have hval : ∀ (j : Nat) t v, Tryz.f3.params[j]? = some t → args[j]? = some v → Value.okWide Tryz.prog W .any base t v := hval0
  have hW' := hW
  obtain ⟨p, q, hA0, hV, rfl, hfz, hnd⟩ := hW
  have hA : DataW.TrodAll enc Tryz.prog W 0 (fun _ => true) true Tryz.f3.params.toList args.toList ds p := hA0
  rw [Tryz.params3] at hA hval
  obtain ⟨v0, vs0, d0, ds0, p0, q0, hargs, rfl, rfl, h0, r0⟩ := trodAll_cons hA
  obtain ⟨v1, vs1, d1, ds1, p1, q1, rfl, rfl, rfl, h1, r1⟩ := trodAll_cons r0
  obtain ⟨v2, vs2, d2, ds2, p2, q2, rfl, rfl, rfl, h2, r2⟩ := trodAll_cons r1
  obtain ⟨rfl, rfl, rfl⟩ := trodAll_nil r2
  obtain rfl : args = #[v0, v1, v2] := by cases args; simp_all
  obtain ⟨rfl, rfl⟩ := trodVars_none hV
  obtain ⟨a0, rfl, rfl, rfl, w0⟩ := open_int Tryz.underlying3 (hval 0 3 v0 rfl rfl) h0
  obtain ⟨id, rfl, i1, i2⟩ := open_id Tryz.underlying22 Tryz.underlying5 (by kernel_rfl) (by kernel_rfl) (hval 1 22 v1 rfl rfl) h1
  obtain ⟨N, aA, an, ac, ax, P, dA, dn, dc, dx, rfl, n1, n2, n3, n4, n5, n6, n7, n8, n9⟩ := open_att (hval 2 26 v2 rfl rfl) h2
  have k1 := h1
  have k2 := h2
  have lt1 : ∀ x ∈ p1, x.block < W.heap.size := by obtain ⟨m, hm⟩ := k1; exact DataW.trod_lt m _ _ _ hm
  have lt2 : ∀ x ∈ p2, x.block < W.heap.size := by obtain ⟨m, hm⟩ := k2; exact DataW.trod_lt m _ _ _ hm
  clear hA0 hval0
  refine (fnRoad_any a0 id N aA an ac ax P dA dn dc dx W i1 i2 n1 n2 n3 n4 n5 n6 n7 n9).mono fun e W' ⟨he, bel⟩ => ?_
  subst he
  exact ⟨_, rfl, _, _, _, [], _, [], hW', trodAll_mk1 (shut_bool Tryz.underlying4 _), (trodAll_cons_mk (shut_int Tryz.underlying3 w0) (trodAll_cons_mk (Below.trod laidOut (by kernel_rfl) (of_decide_eq_true (by kernel_rfl)) k1 bel lt1) (trodAll_cons_mk (Below.trod laidOut (by kernel_rfl) (of_decide_eq_true (by kernel_rfl)) k2 bel lt2) trodAll_mk0))), rfl, bel.frame _, fun h => by cases h⟩

theorem fnRoad_over : Rows.fnRoadRow.holds Tryz.pinned (OpenSpec.ofChange Rows.fnRoadSpec) :=
  OpenClaim.holds_of_wide 3 Tryz.f3 rfl rfl rfl rfl rfl rfl rfl ⟨rfl, rfl, rfl, rfl, rfl⟩ rfl rfl rfl rfl rfl (by kernel_rfl) Tryz.func3 (by kernel_rfl)
    (of_decide_eq_true (by kernel_rfl)) (by unfold Func.isWrapper; first | (rw [if_pos (by decide +kernel)]; kernel_rfl) | (rw [if_neg (by decide +kernel)]; exact ⟨rfl, rfl⟩))
    (fun os started H enc _ => fnRoad_lifted os started H enc)

/-- ████ THE STATEMENT ████ -/
theorem fnRoad_holds : Rows.FnRoadSaid := fnRoad_over

end Go.Proofs.YthgghgejndncnaaGreat
