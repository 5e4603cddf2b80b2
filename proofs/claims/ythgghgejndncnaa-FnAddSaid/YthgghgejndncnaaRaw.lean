/- append of one RawAttribute. -/
import Derived.Test.YthgghgejndncnaaBlk
import Derived.Maps.AppendAt
namespace Go.Proofs.Ythgghgejndncnaa
open Go.RowKit
set_option linter.unusedSimpArgs false
set_option linter.unusedVariables false

theorem info_raw : (Try.prog.info? 116).map (fun i => (i.zero, i.size, i.bytes)) = some (some (.agg #[.int .u16 0, .int .u16 0, .slice none 0 0]), 3, 32) := by kernel_rfl

theorem step_app_raw {ops : Array Oper} {o : Oper} {a : Act} {K : Act → World → Prop} {Q : Exit → Act → World → Prop} {E : Prop} (dd : Nat) (hdd : o.dst = some dd) (base : Nat) (W : World) (hgd : o.guard = none) (s x : Operand)
    (ho : o.op = .call { callee := .builtin .append, args := #[s, x], argTypes := #[74, 74] })
    (v : Value) (n nb : Nat) (xs : List Value) (hs : a.eval s = v) (hx : a.eval x = .slice (some ⟨nb, 0, none⟩) 1 1) (q0 q1 q2 : Value)
    (HO : W.ownsRow base 116 3 v n xs) (h0 : W.cell? ⟨nb, 0, none⟩ = some q0) (h1 : W.cell? ⟨nb, 1, none⟩ = some q1) (h2 : W.cell? ⟨nb, 2, none⟩ = some q2)
    (g0 : q0.oneCell' = true) (g1 : q1.oneCell' = true) (g2 : q2.oneCell' = true) (hbase : base ≤ W.heap.size) (hl : n ≤ 1000)
    (h : ∀ v1 w1, w1.ownsRow base 116 3 v1 (n + 1) (xs ++ [q0, q1, q2]) → W.grownBy w1 v.ownBlock → K (a.put (some dd) v1) w1) :
    if Region.wanted o (yielded ops a.tmps) = true then Oper.wp Try.prog o a W K Q else E := by
  have hw : Region.wanted o (yielded ops a.tmps) = true := by simp [Region.wanted, hgd]
  rw [if_pos hw]
  obtain ⟨i0, hi, hz0, hz1, hz2⟩ := info_parts info_raw
  obtain ⟨v1, w1, hr, hown, hg, -, -⟩ := run_append_own_at (P := Try.prog) W base 74 o.type 116 i0 _ 3 32 Try.underlying74 hi hz0 hz1 hz2 rfl (by omega) v n xs HO ⟨nb, 0, none⟩ 1 1 [q0, q1, q2] (by simp)
    (by
      intro j u hu
      match j, hu with
      | 0, hu => simp at hu; subst hu; exact h0
      | 1, hu => simp at hu; subst hu; exact h1
      | 2, hu => simp at hu; subst hu; exact h2
      | (k + 3), hu => simp at hu)
    (by intro u hu; simp at hu; rcases hu with rfl | rfl | rfl <;> assumption) (by simp only [maxLen]; omega) (by omega) hbase
  rw [← hdd] at h
  unfold Oper.wp execOp
  simp only [ho, resolve, invoke, builtin, Sem.run_bind, Sem.run_pure, Result.andThen_ok, List.map_toArray, List.map_cons, List.map_nil, hs, hx, hr]
  exact h v1 w1 hown hg

/-- a row of one attribute of the call's own -/
theorem raw_cells {w : World} {base : Nat} {v : Value} {q0 q1 q2 : Value} (h : w.ownsRow base 116 3 v (0 + 1) ([] ++ [q0, q1, q2])) :
    ∃ ab cap, v = .slice (some ⟨ab, 0, none⟩) 1 cap ∧ 1 ≤ cap ∧ base ≤ ab ∧ ab < w.heap.size ∧ w.cell? ⟨ab, 0, none⟩ = some q0 ∧ w.cell? ⟨ab, 1, none⟩ = some q1 ∧ w.cell? ⟨ab, 2, none⟩ = some q2 := by
  rcases h.2 with ⟨_, h0⟩ | ⟨g, cap, cur, rfl, hb, _, h1, h2, _⟩
  · omega
  · have hc := h.cells (g := g) rfl
    refine ⟨g, cap, rfl, by omega, hb, (h.lt g rfl).2, ?_, ?_, ?_⟩
    · have := hc 0 q0 rfl; rwa [Addr.add_lit] at this
    · have := hc 1 q1 rfl; rwa [Addr.add_lit] at this
    · have := hc 2 q2 rfl; rwa [Addr.add_lit] at this
end Go.Proofs.Ythgghgejndncnaa
