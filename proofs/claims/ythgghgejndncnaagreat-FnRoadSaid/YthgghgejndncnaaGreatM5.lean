/- 'stun.Decode'. -/
import Derived.Test.YthgghgejndncnaaGreatDec
namespace Go.Proofs.YthgghgejndncnaaGreat
open Go.RowKit
set_option linter.unusedSimpArgs false
set_option linter.unusedVariables false

theorem own_empty {w : World} {r c : Nat} {cur : Array Value} (h : w.heap[r]? = some (.cells cur 5 (0, 0))) (hc : cur.size = c) (hm : c ≤ 1000000) : w.ownsRow r 5 1 (.slice (some ⟨r, 0, none⟩) 0 c) 0 (nums []) :=
  ⟨rfl, .inr ⟨r, c, cur, rfl, Nat.le_refl _, h, Nat.zero_le _, by simp only [maxLen]; omega, by omega, by simp [nums]⟩⟩

set_option maxHeartbeats 2000000 in
theorem sDecode_any (g r n c l : Nat) (cur : Array Value) (A : Option Addr) (m0 m1 t : Int) (id v idz : List Int) (w : World) (hg : MsgBlk w g 0 0 0 idz (.slice none 0 0) (.slice (some ⟨r, 0, none⟩) 20 120))
    (hr : w.heap[r]? = some (.cells cur 5 (0, 0))) (hcur : cur.size = 120) (hrg : r ≠ g) (hid : id.length = 12) (hv : v.length = l) (hl : l ≤ 1000)
    (ht : 0 ≤ t ∧ t ≤ 255) (ht8 : t ≠ 8) (ht28 : t ≠ 28) (hm0 : 0 ≤ m0 ∧ m0 ≤ 255) (hm1 : 0 ≤ m1 ∧ m1 ≤ 255) (hn : n = 24 + pad4 l) (hnc : n ≤ c) (hR : Rd w A (msgH m0 m1 t id v)) :
    Calls Tryz.prog 20 #[.slice A n c, .pointer (some ⟨g, 0, none⟩)] w fun e w' => e = .returned .nilIface ∧ MsgHas w' g t v id ∧ Kept [g, r] w w' := by
  have hp4 : pad4 (4 + l) = 4 + pad4 l := by unfold pad4; omega
  have hrl : (msgH m0 m1 t id v).length = n := by simp [msgH, put2, attrB_length, hid, hv, hp4]; omega
  have hn2 : n ≤ 2000 := by have : pad4 l ≤ l + 3 := by unfold pad4; omega
                            omega
  have c16 := hg.facts.2.2.2.2.1
  have f16 := hg.free 16
  have HR := Lib.hid hR
  have HL := Lib.hid hrl
  have HG := Lib.hid hg
  have HO := Lib.hid (own_empty hr hcur (by omega))
  have HV := Lib.hid (And.intro hid (And.intro hv (And.intro ht8 ht28)))
  have HX := Lib.hid (And.intro ht (And.intro hm0 (And.intro hm1 hn)))
  have hrl := blk_lt hr
  have hgl := hg.lt
  clear hR hg hr hid hv ht8 ht28 hm0 hm1 hn ht hp4
  go_enter Tryz.func20, Tryz.ntmps20
  go_wp2_with (at_builtin; refine wp_app Tryz.underlying24 r w rfl (.tmp 13) (.tmp 14) rfl (.slice (some ⟨r, 0, none⟩) 0 120) [] (msgH m0 m1 t id v) 0 n A c rfl HL.out rfl rfl HO.out HR.out (by omega) (by omega) w (Below.refl _ _) ?_; intro v1 w1 hown1 hB1 hg1; have hk1 : Kept [r] w w1 := Kept.of_grown hg1.out.1 (fun b e => .inl (by injection e with e; simp [← e])); have hgg := HG.out.kept hk1 (by simpa using (fun e => hrg e.symm)); have c16' := hgg.facts.2.2.2.2.1; have f16' := hgg.free 16; have HG' := Lib.hid hgg; have HK1 := Lib.hid hk1; have HO1 := Lib.hid hown1; obtain ⟨-, A1, c1, rfl, hc1, hcm1, hR1⟩ := own_rd hown1; have HR1 := Lib.hid hR1; clear hown1 hgg hk1 hB1 hR1)
  clear c16 f16 c16' f16'
  have hA1 : ∀ a, A1 = some a → a.block ≠ g := by
    intro a e
    subst e
    rcases hg1.out.2 with h | h
    · have h' : some a.block = some r := h
      injection h' with h'
      rw [h']; exact hrg
    · have h' : some a.block = some w.heap.size := h
      injection h' with h'
      omega
  have hk2 : Kept [g, r] w (w1.setCell ⟨g, 16, none⟩ (.slice A1 (0 + n) c1)) := (HK1.out.mono (by simp)).setCell (.inl (by simp)) _
  have HK2 := Lib.hid hk2
  have hg2 := HG'.out.set16 (.slice A1 (0 + n) c1)
  have hR2 : Rd (w1.setCell ⟨g, 16, none⟩ (.slice A1 (0 + n) c1)) A1 (msgH m0 m1 t id v) := HR1.out.setCell _ _ hA1
  clear hk2
  rw [Nat.zero_add] at *
  refine (mDecode_any g n c1 l A1 m0 m1 t id v idz _ ?_ HV.out.1 HV.out.2.1 hl HX.out.1 HV.out.2.2.1 HV.out.2.2.2 HX.out.2.1 HX.out.2.2.1 HX.out.2.2.2 hc1 ?_ hA1).mono ?_
  · exact hg2
  · exact hR2
  rintro e w3 ⟨rfl, hm3, hk3⟩
  have HF := Lib.hid (And.intro hm3 (HK2.out.trans hk3 (by simp)))
  clear hm3 hk3 hg2 hR2
  go_wp2_with fail
  go_ret
  exact ⟨rfl, HF.out.1, HF.out.2⟩
end Go.Proofs.YthgghgejndncnaaGreat

/- 'Attributes.Get', '(*Message).Get', CheckSize, CheckOverflow. -/
namespace Go.Proofs.YthgghgejndncnaaGreat
open Go.RowKit
set_option linter.unusedSimpArgs false
set_option linter.unusedVariables false

theorem cells3 {w : World} {g : Nat} {a b c : Value} {t : TypeId} {fr : Nat × Nat} (h : w.heap[g]? = some (.cells #[a, b, c] t fr)) :
    w.cell? ⟨g, 0, none⟩ = some a ∧ w.cell? ⟨g, 1, none⟩ = some b ∧ w.cell? ⟨g, 2, none⟩ = some c :=
  ⟨(blk_cell h 0).trans rfl, (blk_cell h 1).trans rfl, (blk_cell h 2).trans rfl⟩

set_option maxHeartbeats 1000000 in
theorem attrsGet_yes (ab cap : Nat) (t l : Int) (v : Value) (w : World) (hv : v.oneCell' = true) (hc : 1 ≤ cap) (h0 : w.cell? ⟨ab, 0, none⟩ = some (.int .u16 t)) (h1 : w.cell? ⟨ab, 1, none⟩ = some (.int .u16 l)) (A : Option Addr) (n c : Nat) (hvv : v = .slice A n c) (h2 : w.cell? ⟨ab, 2, none⟩ = some v) :
    Calls Tryz.prog 63 #[.slice (some ⟨ab, 0, none⟩) 1 cap, .int .u16 t] w fun e w' => e = .returned (.tuple #[.agg #[.int .u16 t, .int .u16 l, v], .bool true]) ∧ Below w.heap.size w w' := by
  subst hvv
  have k0 := World.block_lt_of_cell? w _ h0
  have hne : ¬ w.heap.size = ab := by intro e; simp at k0; omega
  go_enter Tryz.func63, Tryz.ntmps63
  go_wp2_with fail
  go_rounds 1
  refine bodyPost_ret (v := .tuple #[.agg #[.int .u16 t, .int .u16 l, .slice A n c], .bool true]) (by simp [results, Tryz.results63, go_sem]) rfl ?_
  exact ⟨rfl, below_then (below_alloc _ _) (below_alloc _ _)⟩

set_option maxHeartbeats 1000000 in
theorem attrsGet_no (ab cap : Nat) (t t' l : Int) (w : World) (hne' : t ≠ t') (hc : 1 ≤ cap) (h0 : w.cell? ⟨ab, 0, none⟩ = some (.int .u16 t)) (h1 : w.cell? ⟨ab, 1, none⟩ = some (.int .u16 l)) (A : Option Addr) (n c : Nat) (h2 : w.cell? ⟨ab, 2, none⟩ = some (.slice A n c)) :
    Calls Tryz.prog 63 #[.slice (some ⟨ab, 0, none⟩) 1 cap, .int .u16 t'] w fun e w' => e = .returned (.tuple #[.agg #[.int .u16 0, .int .u16 0, .slice none 0 0], .bool false]) ∧ Below w.heap.size w w' := by
  have k0 := World.block_lt_of_cell? w _ h0
  have hne : ¬ w.heap.size = ab := by intro e; simp at k0; omega
  have b0 : (t == t') = false := by rw [beq_eq_false_iff_ne]; exact hne'
  go_enter Tryz.func63, Tryz.ntmps63
  go_wp2_with fail
  go_rounds 2
  refine bodyPost_ret (v := .tuple #[.agg #[.int .u16 0, .int .u16 0, .slice none 0 0], .bool false]) (by simp [results, Tryz.results63, go_sem]) rfl ?_
  exact ⟨rfl, below_then (below_alloc _ _) (below_alloc _ _)⟩

set_option maxHeartbeats 1000000 in
theorem mGet_yes (g : Nat) (t : Int) (v id : List Int) (w : World) (h : MsgHas w g t v id) :
    Calls Tryz.prog 58 #[.pointer (some ⟨g, 0, none⟩), .int .u16 t] w fun e w' => ∃ A n c, e = .returned (.tuple #[.slice A n c, .nilIface]) ∧ v.length = n ∧ n ≤ c ∧ Rd w' A v ∧ Below w.heap.size w w' := by
  obtain ⟨M, C, L, rw_, ab, cap, A, n, c, l, hg, hcap, h0, h1, h2, hn, hnc, hR⟩ := h
  have c15 := hg.facts.2.2.2.1
  have H := Lib.hid (And.intro h0 (And.intro h1 (And.intro h2 hR)))
  clear h0 h1 h2 hR hg
  go_enter Tryz.func58, Tryz.ntmps58
  go_wp2_with (go_at_call 63; refine (attrsGet_yes ab cap t l (.slice A n c) _ rfl hcap H.out.1 H.out.2.1 A n c rfl H.out.2.2.1).mono ?_; rintro e w1 ⟨rfl, hB1⟩)
  have HB1 := Lib.hid hB1
  clear hB1
  refine bodyPost_ret (v := .tuple #[.slice A n c, .nilIface]) (by simp [results, Tryz.results58, go_sem]) rfl ?_
  exact ⟨A, n, c, rfl, hn, hnc, (H.out.2.2.2.below HB1.out).alloc _, below_then HB1.out (below_alloc _ _)⟩

set_option maxHeartbeats 1000000 in
theorem mGet_no (g : Nat) (t t' : Int) (v id : List Int) (w : World) (h : MsgHas w g t v id) (hne : t ≠ t') :
    Calls Tryz.prog 58 #[.pointer (some ⟨g, 0, none⟩), .int .u16 t'] w fun e w' => ∃ u x, e = .returned (.tuple #[.slice none 0 0, .iface u x]) ∧ Below w.heap.size w w' := by
  obtain ⟨M, C, L, rw_, ab, cap, A, n, c, l, hg, hcap, h0, h1, h2, hn, hnc, hR⟩ := h
  have c15 := hg.facts.2.2.2.1
  have H := Lib.hid (And.intro h0 (And.intro h1 h2))
  clear h0 h1 h2 hR hg
  go_enter Tryz.func58, Tryz.ntmps58
  go_wp2_with (go_at_call 63; refine (attrsGet_no ab cap t t' l _ hne hcap H.out.1 H.out.2.1 A n c H.out.2.2).mono ?_; rintro e w1 ⟨rfl, hB1⟩)
  have HB1 := Lib.hid hB1
  clear hB1
  refine bodyPost_ret (v := .tuple #[.slice none 0 0, .iface 85 (.string ⟨#[97, 116, 116, 114, 105, 98, 117, 116, 101, 32, 110, 111, 116, 32, 102, 111, 117, 110, 100]⟩)]) (by simp [results, Tryz.results58, go_sem]) rfl ?_
  exact ⟨_, _, rfl, below_then HB1.out (below_alloc _ _)⟩

theorem checkSize_yes (t a b : Int) (w : World) (h : a = b) :
    Calls Tryz.prog 59 #[.int .u16 t, .int .i64 a, .int .i64 b] w fun e w' => e = .returned .nilIface ∧ w = w' := by
  subst h
  go_enter Tryz.func59, Tryz.ntmps59
  go_wp2_with fail
  go_ret
  exact ⟨rfl, rfl⟩

theorem checkOver_yes (t a b : Int) (w : World) (h : a ≤ b) :
    Calls Tryz.prog 64 #[.int .u16 t, .int .i64 a, .int .i64 b] w fun e w' => e = .returned .nilIface ∧ w = w' := by
  have t0 : decide (a ≤ b) = true := decide_eq_true h
  go_enter Tryz.func64, Tryz.ntmps64
  go_wp2_with fail
  go_ret
  exact ⟨rfl, rfl⟩
end Go.Proofs.YthgghgejndncnaaGreat
