/- a message under construction: its bytes; 'append(m.Raw, make([]byte, n)...)'; '(*Message).grow'. -/
import Derived.Test.YthgghgejndncnaaMsg1
import Derived.Lib.AppendZeros
import Derived.Deep.RegionHeld
import Derived.Deep.Cut
import Derived.Deep.CutRange
import Derived.Deep.DeepCutAuto
namespace Go.Proofs.Ythgghgejndncnaa
open Go.RowKit
set_option linter.unusedSimpArgs false
set_option linter.unusedVariables false

/-- append(x, make([]byte, n)...) where there is no room -/
theorem run_app_make {P : Program} (w : World) (t tn ty e : TypeId) (i : TypeInfo) (z : Value) (k kn : IntKind) (ht : P.underlying t = some (.slice e)) (htn : P.underlying tn = some (.int kn)) (hi : P.info? e = some i) (hz : i.zero = some z)
    (b : Addr) (sLen sCap : Nat) (olds : List Value) (hlo : olds.length = sLen * i.size) (holds : ∀ j v, olds[j]? = some v → w.cell? (b.add j) = some v)
    (n : Nat) (h0 : 0 < n) (hs : 0 < i.size) (hg : sCap < sLen + n) (h63 : ((sLen + n : Nat) : Int) ≤ 9223372036854775807) (hfit : Builtin.nextslicecap (sLen + n) sCap * i.bytes ≤ 281474976710656) (h48 : n * i.bytes ≤ 281474976710656) :
    (Builtin.append_ #[t, tn] ty #[.slice (some b) sLen sCap, .int k n]).run P w =
      .ok (.slice (some ⟨w.heap.size, 0, none⟩) (sLen + n) (grownCap w (sLen + n) sCap e)) (w.drew.alloc (.cells (olds.toArray ++ Builtin.zeroCells z.cells n ++ Builtin.zeroCells z.cells (grownCap w (sLen + n) sCap e - (sLen + n))) e)) := by
  have hn : ¬ (sLen + n ≤ sCap) := by omega
  have hw : IntKind.i64.wrap (n : Int) = n := by rw [IntKind.wrap_i64]; omega
  have h63' : ¬ (9223372036854775807 < ((sLen : Int) + (n : Int))) := by omega
  have h48' : ¬ (281474976710656 < Builtin.nextslicecap (sLen + n) sCap * i.bytes) := by omega
  have h48i : ¬ (281474976710656 < (n : Int) * (i.bytes : Int)) := by
    rw [← Int.natCast_mul]
    omega
  have hneg : ¬ ((n : Int) < 0) := by omega
  have hns : ¬ (n * i.size = 0) := Nat.mul_ne_zero (by omega) (by omega)
  have hfo := run_firstCells_some (P := P) w.drew i.size sLen b sLen sCap olds hlo (by simpa using holds)
  simp [Builtin.append_, run_underlying ht, run_underlying htn, sizeOf, typeInfo, zeroValue, hi, hz, asInt, asIntOf, hw, hn, hneg, hns, h63', h48', h48i, Question.forced, hfo, Go.newRow, grownCap]

/-- a message under construction: n bytes of the row 'bs' -/
def RawMsg (w : World) (g rb : Nat) (L : Int) (id : List Int) (at_ : Value) (n : Nat) (bs : List Int) : Prop :=
  MsgBlk w g 0 0 L id at_ (.slice (some ⟨rb, 0, none⟩) n bs.length) ∧ w.heap[rb]? = some (.cells (nums bs).toArray 5 (0, 0)) ∧ n ≤ bs.length ∧ rb ≠ g

theorem nums_set (bs : List Int) (i : Nat) (x : Int) : (nums bs).toArray.setIfInBounds i (.int .u8 x) = (nums (bs.set i x)).toArray := by
  simp [nums, List.map_set]

set_option maxHeartbeats 1000000 in
theorem mgrow_no (g rb : Nat) (L : Int) (id : List Int) (at_ : Value) (n n' : Nat) (bs : List Int) (w : World) (h : RawMsg w g rb L id at_ n bs) (hn : n' ≤ n) :
    Calls Try.prog 66 #[.pointer (some ⟨g, 0, none⟩), .int .i64 n'] w fun e w' => e = .returned (.tuple #[]) ∧ w' = w := by
  have c16 := h.1.facts.2.2.2.2.1
  have t0 : decide ((n' : Int) ≤ n) = true := decide_eq_true (by omega)
  clear h
  go_enter Try.func66, Try.ntmps66
  go_wp2_with fail
  refine bodyPost_ret (v := .tuple #[]) (by simp [results, Try.results66, go_sem]) rfl ?_
  exact ⟨rfl, rfl⟩

set_option maxHeartbeats 1000000 in
theorem mgrow_room (g rb : Nat) (L : Int) (id : List Int) (at_ : Value) (n n' : Nat) (bs : List Int) (w : World) (h : RawMsg w g rb L id at_ n bs) (hn : n < n') (hc : n' ≤ bs.length) :
    Calls Try.prog 66 #[.pointer (some ⟨g, 0, none⟩), .int .i64 n'] w fun e w' => e = .returned (.tuple #[]) ∧ RawMsg w' g rb L id at_ n' bs ∧ Kept [g] w w' := by
  have c16 := h.1.facts.2.2.2.2.1
  have f16 := h.1.free 16
  have t0 : decide ((n' : Int) ≤ n) = false := decide_eq_false (by omega)
  have t1 : decide ((n' : Int) ≤ bs.length) = true := decide_eq_true (by omega)
  have t2 : (n' : Int) ≤ bs.length := by omega
  have H := Lib.hid h
  clear h
  go_enter Try.func66, Try.ntmps66
  go_wp2_with fail
  refine bodyPost_ret (v := .tuple #[]) (by simp [results, Try.results66, go_sem]) rfl ?_
  exact ⟨rfl, ⟨H.out.1.set16 _, blk_far H.out.2.1 H.out.2.2.2 _, hc, H.out.2.2.2⟩, (Kept.refl _ _).setCell (.inl (by simp)) _⟩
end Go.Proofs.Ythgghgejndncnaa
