/- regions that draw their order: the condition on the world may be made stronger on the way. -/
import Derived.Deep.RegionHeld
import Derived.Test.YthgghgejndncnaaGreatM1
namespace Go.Proofs.YthgghgejndncnaaGreat
open Go Go.RowKit

theorem wpAnyH_strong {P : Program} {ops : Array Oper} {Q : Exit → Act → World → Prop} {md : Region.Mode} {S S' : World → Prop} (h : ∀ w, S' w → S w) :
    ∀ (fuel : Nat) (listed : Array Bool) (a : Act) (w : World), wpAnyH P md ops Q S' fuel listed a w → wpAnyH P md ops Q S fuel listed a w
  | 0, _, _, _, k => k
  | fuel + 1, _, _, _, k => ⟨k.1, fun i hi => wpOp_mono (fun a' w' k' => ⟨h w' k'.1, wpAnyH_strong h fuel _ a' w' k'.2⟩) (k.2 i hi)⟩

/-- 'step_app' with the slot written out -/
theorem step_app_d {ops : Array Oper} {o : Oper} {a : Act} {K : Act → World → Prop} {Q : Exit → Act → World → Prop} {E : Prop} {t : TypeId} (d : Nat) (hd : o.dst = some d) (ht : Tryz.prog.underlying t = some (.slice 5)) (base : Nat) (W : World) (hgd : o.guard = none) (s x : Operand)
    (ho : o.op = .call { callee := .builtin .append, args := #[s, x], argTypes := #[t, t] })
    (v : Value) (xs ys : List Int) (n m : Nat) (A : Option Addr) (c : Nat) (hn : xs.length = n) (hm : ys.length = m) (hs : a.eval s = v) (hx : a.eval x = .slice A m c)
    (HO : W.ownsRow base 5 1 v n (nums xs)) (HR : Rd W A ys) (hbase : base ≤ W.heap.size) (hl : n + m ≤ 1000000)
    (h : ∀ v1 w1, w1.ownsRow base 5 1 v1 (n + m) (nums (xs ++ ys)) → Hid (W.grownBy w1 v.ownBlock ∧ (v1.ownBlock = v.ownBlock ∨ v1.ownBlock = some W.heap.size)) → K (a.put (some d) v1) w1) :
    if Region.wanted o (yielded ops a.tmps) = true then Oper.wp Tryz.prog o a W K Q else E :=
  step_app ht base W hgd s x ho v xs ys n m A c hn hm hs hx HO HR hbase hl (by rw [hd]; exact h)

end Go.Proofs.YthgghgejndncnaaGreat
