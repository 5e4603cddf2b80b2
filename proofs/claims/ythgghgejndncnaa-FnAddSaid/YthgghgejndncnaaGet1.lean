/- 'Attributes.Get', '(*Message).Get', CheckSize, CheckOverflow. -/
import Derived.Test.YthgghgejndncnaaDec2
namespace Go.Proofs.Ythgghgejndncnaa
open Go.RowKit
set_option linter.unusedSimpArgs false
set_option linter.unusedVariables false

theorem cells3 {w : World} {g : Nat} {a b c : Value} {t : TypeId} {fr : Nat × Nat} (h : w.heap[g]? = some (.cells #[a, b, c] t fr)) :
    w.cell? ⟨g, 0, none⟩ = some a ∧ w.cell? ⟨g, 1, none⟩ = some b ∧ w.cell? ⟨g, 2, none⟩ = some c :=
  ⟨(blk_cell h 0).trans rfl, (blk_cell h 1).trans rfl, (blk_cell h 2).trans rfl⟩

set_option maxHeartbeats 1000000 in
theorem attrsGet_yes (ab cap : Nat) (t l : Int) (v : Value) (w : World) (hv : v.oneCell' = true) (hc : 1 ≤ cap) (h0 : w.cell? ⟨ab, 0, none⟩ = some (.int .u16 t)) (h1 : w.cell? ⟨ab, 1, none⟩ = some (.int .u16 l)) (A : Option Addr) (n c : Nat) (hvv : v = .slice A n c) (h2 : w.cell? ⟨ab, 2, none⟩ = some v) :
    Calls Try.prog 85 #[.slice (some ⟨ab, 0, none⟩) 1 cap, .int .u16 t] w fun e w' => e = .returned (.tuple #[.agg #[.int .u16 t, .int .u16 l, v], .bool true]) ∧ Below w.heap.size w w' := by
  subst hvv
  have k0 := World.block_lt_of_cell? w _ h0
  have hne : ¬ w.heap.size = ab := by intro e; simp at k0; omega
  go_enter Try.func85, Try.ntmps85
  go_wp2_with fail
  go_rounds 1
  refine bodyPost_ret (v := .tuple #[.agg #[.int .u16 t, .int .u16 l, .slice A n c], .bool true]) (by simp [results, Try.results85, go_sem]) rfl ?_
  exact ⟨rfl, below_then (below_alloc _ _) (below_alloc _ _)⟩

set_option maxHeartbeats 1000000 in
theorem attrsGet_no (ab cap : Nat) (t t' l : Int) (w : World) (hne' : t ≠ t') (hc : 1 ≤ cap) (h0 : w.cell? ⟨ab, 0, none⟩ = some (.int .u16 t)) (h1 : w.cell? ⟨ab, 1, none⟩ = some (.int .u16 l)) (A : Option Addr) (n c : Nat) (h2 : w.cell? ⟨ab, 2, none⟩ = some (.slice A n c)) :
    Calls Try.prog 85 #[.slice (some ⟨ab, 0, none⟩) 1 cap, .int .u16 t'] w fun e w' => e = .returned (.tuple #[.agg #[.int .u16 0, .int .u16 0, .slice none 0 0], .bool false]) ∧ Below w.heap.size w w' := by
  have k0 := World.block_lt_of_cell? w _ h0
  have hne : ¬ w.heap.size = ab := by intro e; simp at k0; omega
  have b0 : (t == t') = false := by rw [beq_eq_false_iff_ne]; exact hne'
  go_enter Try.func85, Try.ntmps85
  go_wp2_with fail
  go_rounds 2
  refine bodyPost_ret (v := .tuple #[.agg #[.int .u16 0, .int .u16 0, .slice none 0 0], .bool false]) (by simp [results, Try.results85, go_sem]) rfl ?_
  exact ⟨rfl, below_then (below_alloc _ _) (below_alloc _ _)⟩

set_option maxHeartbeats 1000000 in
theorem mGet_yes (g : Nat) (t : Int) (v id : List Int) (w : World) (h : MsgHas w g t v id) :
    Calls Try.prog 79 #[.pointer (some ⟨g, 0, none⟩), .int .u16 t] w fun e w' => ∃ A n c, e = .returned (.tuple #[.slice A n c, .nilIface]) ∧ v.length = n ∧ n ≤ c ∧ Rd w' A v ∧ Below w.heap.size w w' := by
  obtain ⟨M, C, L, rw_, ab, cap, A, n, c, l, hg, hcap, h0, h1, h2, hn, hnc, hR⟩ := h
  have c15 := hg.facts.2.2.2.1
  have H := Lib.hid (And.intro h0 (And.intro h1 (And.intro h2 hR)))
  clear h0 h1 h2 hR hg
  go_enter Try.func79, Try.ntmps79
  go_wp2_with (go_at_call 85; refine (attrsGet_yes ab cap t l (.slice A n c) _ rfl hcap H.out.1 H.out.2.1 A n c rfl H.out.2.2.1).mono ?_; rintro e w1 ⟨rfl, hB1⟩)
  have HB1 := Lib.hid hB1
  clear hB1
  refine bodyPost_ret (v := .tuple #[.slice A n c, .nilIface]) (by simp [results, Try.results79, go_sem]) rfl ?_
  exact ⟨A, n, c, rfl, hn, hnc, (H.out.2.2.2.below HB1.out).alloc _, below_then HB1.out (below_alloc _ _)⟩

set_option maxHeartbeats 1000000 in
theorem mGet_no (g : Nat) (t t' : Int) (v id : List Int) (w : World) (h : MsgHas w g t v id) (hne : t ≠ t') :
    Calls Try.prog 79 #[.pointer (some ⟨g, 0, none⟩), .int .u16 t'] w fun e w' => ∃ u x, e = .returned (.tuple #[.slice none 0 0, .iface u x]) ∧ Below w.heap.size w w' := by
  obtain ⟨M, C, L, rw_, ab, cap, A, n, c, l, hg, hcap, h0, h1, h2, hn, hnc, hR⟩ := h
  have c15 := hg.facts.2.2.2.1
  have H := Lib.hid (And.intro h0 (And.intro h1 h2))
  clear h0 h1 h2 hR hg
  go_enter Try.func79, Try.ntmps79
  go_wp2_with (go_at_call 85; refine (attrsGet_no ab cap t t' l _ hne hcap H.out.1 H.out.2.1 A n c H.out.2.2).mono ?_; rintro e w1 ⟨rfl, hB1⟩)
  have HB1 := Lib.hid hB1
  clear hB1
  refine bodyPost_ret (v := .tuple #[.slice none 0 0, .iface 80 (.string ⟨#[97, 116, 116, 114, 105, 98, 117, 116, 101, 32, 110, 111, 116, 32, 102, 111, 117, 110, 100]⟩)]) (by simp [results, Try.results79, go_sem]) rfl ?_
  exact ⟨_, _, rfl, below_then HB1.out (below_alloc _ _)⟩

theorem checkSize_yes (t a b : Int) (w : World) (h : a = b) :
    Calls Try.prog 80 #[.int .u16 t, .int .i64 a, .int .i64 b] w fun e w' => e = .returned .nilIface ∧ w = w' := by
  subst h
  go_enter Try.func80, Try.ntmps80
  go_wp2_with fail
  go_ret
  exact ⟨rfl, rfl⟩

theorem checkOver_yes (t a b : Int) (w : World) (h : a ≤ b) :
    Calls Try.prog 86 #[.int .u16 t, .int .i64 a, .int .i64 b] w fun e w' => e = .returned .nilIface ∧ w = w' := by
  have t0 : decide (a ≤ b) = true := decide_eq_true h
  go_enter Try.func86, Try.ntmps86
  go_wp2_with fail
  go_ret
  exact ⟨rfl, rfl⟩
end Go.Proofs.Ythgghgejndncnaa
