/- 'impl.setter'; 'AddTo' of the two kinds of addresses. -/
import Derived.Test.YthgghgejndncnaaGreatAddr2
import Derived.Test.YthgghgejndncnaaGreatM10
namespace Go.Proofs.YthgghgejndncnaaGreat
open Go.RowKit
set_option linter.unusedSimpArgs false
set_option linter.unusedVariables false

set_option maxHeartbeats 1000000 in
theorem aPeer_any (A : Option Addr) (N c : Nat) (ax : List Int) (P : Int) (g rb : Nat) (id bs : List Int) (w : World) (h : Fresh w g rb id bs) (hP : 0 ≤ P ∧ P ≤ 65535) (hax : ax.length = N) (hN : N = 4 ∨ (N = 16 ∧ mappedB ax = false)) (hNc : N ≤ c) (hR : Rd w A ax) :
    Calls Tryz.prog 99 #[.agg #[.slice A N c, .int .i64 P], .pointer (some ⟨g, 0, none⟩)] w fun e w' => e = .returned .nilIface ∧ Added w w' g rb id 18 ([0, fam N, x8 (P / 256 % 256) 33, x8 (P % 256) 18] ++ xorL ax (mask id)) := by
  have hB : Below w.heap.size w (w.alloc (.cells #[.slice A N c, .int .i64 P] 70)) := below_alloc _ _
  have H := Lib.hid (And.intro (h.below hB) (And.intro hP (And.intro hax (And.intro hN (And.intro (hR.below hB) hB)))))
  clear h hP hax hN hR hB
  go_enter Tryz.func99, Tryz.ntmps99
  go_wp2_with fail
  refine (addToAs_any A N c ax P 18 g rb id bs _ H.out.1 H.out.2.1 (by omega) H.out.2.2.1 H.out.2.2.2.1 hNc H.out.2.2.2.2.1).mono ?_
  rintro e w3 ⟨rfl, hA⟩
  have HA := Lib.hid (hA.before H.out.2.2.2.2.2)
  clear hA
  go_wp2_with fail
  go_ret
  exact ⟨rfl, HA.out⟩

set_option maxHeartbeats 1000000 in
theorem aRelayed_any (A : Option Addr) (N c : Nat) (ax : List Int) (P : Int) (g rb : Nat) (id bs : List Int) (w : World) (h : Fresh w g rb id bs) (hP : 0 ≤ P ∧ P ≤ 65535) (hax : ax.length = N) (hN : N = 4 ∨ (N = 16 ∧ mappedB ax = false)) (hNc : N ≤ c) (hR : Rd w A ax) :
    Calls Tryz.prog 103 #[.agg #[.slice A N c, .int .i64 P], .pointer (some ⟨g, 0, none⟩)] w fun e w' => e = .returned .nilIface ∧ Added w w' g rb id 22 ([0, fam N, x8 (P / 256 % 256) 33, x8 (P % 256) 18] ++ xorL ax (mask id)) := by
  have hB : Below w.heap.size w (w.alloc (.cells #[.slice A N c, .int .i64 P] 71)) := below_alloc _ _
  have H := Lib.hid (And.intro (h.below hB) (And.intro hP (And.intro hax (And.intro hN (And.intro (hR.below hB) hB)))))
  clear h hP hax hN hR hB
  go_enter Tryz.func103, Tryz.ntmps103
  go_wp2_with fail
  refine (addToAs_any A N c ax P 22 g rb id bs _ H.out.1 H.out.2.1 (by omega) H.out.2.2.1 H.out.2.2.2.1 hNc H.out.2.2.2.2.1).mono ?_
  rintro e w3 ⟨rfl, hA⟩
  have HA := Lib.hid (hA.before H.out.2.2.2.2.2)
  clear hA
  go_wp2_with fail
  go_ret
  exact ⟨rfl, HA.out⟩

/-- 'impl.times' -/
theorem times_any (n : Int) (hn : 0 ≤ n ∧ n ≤ 4294967295) (w : World) :
    Calls Tryz.prog 25 #[.int .i64 1000000000, .int .u32 n] w fun e w' => e = .returned (.int .i64 (1000000000 * n)) ∧ w = w' := by
  go_enter Tryz.func25, Tryz.ntmps25
  go_wp2
  go_ret
  exact ⟨rfl, rfl⟩

/-- a clone, as it is handed on -/
def Cloned (w w' : World) (v : Value) (n : Nat) (xs : List Int) : Prop := ∃ A c, v = .slice A n c ∧ n ≤ c ∧ xs.length = n ∧ Rd w' A xs ∧ (∀ a, A = some a → a.block < w'.heap.size) ∧ Below w.heap.size w w'
theorem cloned_of {w w' : World} {v : Value} {n : Nat} {xs : List Int} (h : w'.ownsRow w.heap.size 5 1 v n (nums xs)) (hB : Below w.heap.size w w') : Cloned w w' v n xs := by
  obtain ⟨hl, A, c, rfl, hc, -, hR⟩ := own_rd h
  refine ⟨A, c, rfl, hc, hl, hR, fun a e => ?_, hB⟩
  subst e
  exact (h.lt a.block rfl).2

set_option maxHeartbeats 1000000 in
theorem setter_0 (N : Int) (aA : Option Addr) (an ac : Nat) (ax : List Int) (P : Int) (dA : Option Addr) (dn dc : Nat) (dx : List Int) (w : World) (hN : 0 ≤ N ∧ N ≤ 65535) :
    Calls Tryz.prog 13 #[.int .i64 0, atV N aA an ac P dA dn dc] w fun e w' => e = .returned (.iface 63 (.int .u16 N)) ∧ Below w.heap.size w w' := by
  have t0 : decide (N ≤ 65535) = true := decide_eq_true (by omega)
  have hw : IntKind.u16.wrap N = N := wraps_u16 _ (by omega) (by omega)
  go_enter Tryz.func13, Tryz.ntmps13
  go_wp2_with fail
  go_ret
  exact ⟨rfl, below_alloc _ _⟩

set_option maxHeartbeats 1000000 in
theorem setter_1 (N : Int) (aA : Option Addr) (an ac : Nat) (ax : List Int) (P : Int) (dA : Option Addr) (dn dc : Nat) (dx : List Int) (w : World) (hN : 0 ≤ N ∧ N ≤ 4294967295) :
    Calls Tryz.prog 13 #[.int .i64 1, atV N aA an ac P dA dn dc] w fun e w' => e = .returned (.iface 67 (.agg #[.int .i64 (1000000000 * N)])) ∧ Below w.heap.size w w' := by
  go_enter Tryz.func13, Tryz.ntmps13
  go_wp2_with (go_at_call 25; refine (times_any _ hN _).mono ?_; rintro e w' ⟨rfl, rfl⟩)
  go_ret
  exact ⟨rfl, below_alloc _ _⟩

set_option maxHeartbeats 1000000 in
theorem setter_5 (N : Int) (aA : Option Addr) (an ac : Nat) (ax : List Int) (P : Int) (dA : Option Addr) (dn dc : Nat) (dx : List Int) (w : World) (hN : 0 ≤ N ∧ N ≤ 1) :
    Calls Tryz.prog 13 #[.int .i64 5, atV N aA an ac P dA dn dc] w fun e w' => e = .returned (.iface 74 (.agg #[.bool (N == 1)])) ∧ Below w.heap.size w w' := by
  go_enter Tryz.func13, Tryz.ntmps13
  go_wp2_with fail
  go_ret
  exact ⟨rfl, below_alloc _ _⟩

set_option maxHeartbeats 1000000 in
theorem setter_7 (N : Int) (aA : Option Addr) (an ac : Nat) (ax : List Int) (P : Int) (dA : Option Addr) (dn dc : Nat) (dx : List Int) (w : World) (hN : 0 ≤ N ∧ N ≤ 255) :
    Calls Tryz.prog 13 #[.int .i64 7, atV N aA an ac P dA dn dc] w fun e w' => e = .returned (.iface 78 (.agg #[.int .u8 N])) ∧ Below w.heap.size w w' := by
  have t0 : decide (N ≤ 255) = true := decide_eq_true (by omega)
  have hw : IntKind.u8.wrap N = N := by rw [IntKind.wrap_u8]; omega
  go_enter Tryz.func13, Tryz.ntmps13
  go_wp2_with fail
  go_ret
  exact ⟨rfl, below_alloc _ _⟩

set_option maxHeartbeats 1000000 in
theorem setter_8 (N : Int) (aA : Option Addr) (an ac : Nat) (ax : List Int) (P : Int) (dA : Option Addr) (dn dc : Nat) (dx : List Int) (w : World) (hN : 0 ≤ N ∧ N ≤ 255) :
    Calls Tryz.prog 13 #[.int .i64 8, atV N aA an ac P dA dn dc] w fun e w' => e = .returned (.iface 79 (.int .u8 N)) ∧ Below w.heap.size w w' := by
  have t0 : decide (N ≤ 255) = true := decide_eq_true (by omega)
  have hw : IntKind.u8.wrap N = N := by rw [IntKind.wrap_u8]; omega
  go_enter Tryz.func13, Tryz.ntmps13
  go_wp2_with fail
  go_ret
  exact ⟨rfl, below_alloc _ _⟩

set_option maxHeartbeats 1000000 in
theorem setter_9 (N : Int) (aA : Option Addr) (an ac : Nat) (ax : List Int) (P : Int) (dA : Option Addr) (dn dc : Nat) (dx : List Int) (w : World)  :
    Calls Tryz.prog 13 #[.int .i64 9, atV N aA an ac P dA dn dc] w fun e w' => e = .returned (.iface 81 (.agg #[])) ∧ Below w.heap.size w w' := by
  go_enter Tryz.func13, Tryz.ntmps13
  go_wp2_with fail
  go_ret
  exact ⟨rfl, below_alloc _ _⟩

set_option maxHeartbeats 1000000 in
theorem setter_10 (N : Int) (aA : Option Addr) (an ac : Nat) (ax : List Int) (P : Int) (dA : Option Addr) (dn dc : Nat) (dx : List Int) (w : World)  :
    Calls Tryz.prog 13 #[.int .i64 10, atV N aA an ac P dA dn dc] w fun e w' => e = .returned (.iface 82 (.int .u32 N)) ∧ Below w.heap.size w w' := by
  go_enter Tryz.func13, Tryz.ntmps13
  go_wp2_with fail
  go_ret
  exact ⟨rfl, below_alloc _ _⟩

set_option maxHeartbeats 1000000 in
theorem setter_4 (N : Int) (aA : Option Addr) (an ac : Nat) (ax : List Int) (P : Int) (dA : Option Addr) (dn dc : Nat) (dx : List Int) (w : World) (hd : dx.length = dn) (hl : dn ≤ 1000) (hR : Rd w dA dx) :
    Calls Tryz.prog 13 #[.int .i64 4, atV N aA an ac P dA dn dc] w fun e w' => ∃ v, e = .returned (.iface 72 v) ∧ Cloned w w' v dn dx := by
  have hB : Below w.heap.size w (w.alloc (.cells #[.int .u32 N, .slice aA an ac, .int .i64 P, .slice dA dn dc] 26)) := below_alloc _ _
  have H := Lib.hid (And.intro hd (And.intro (hR.below hB) hB))
  clear hd hR hB
  go_enter Tryz.func13, Tryz.ntmps13
  go_wp2_with fail
  refine (cloneB_any dA dn dc dx _ H.out.1 (by omega) H.out.2.1).mono ?_
  rintro e w2 ⟨v2, rfl, hown2, hB2⟩
  have hc := cloned_of hown2 hB2
  obtain ⟨A2, c2, hv, k1, k2, k3, k4, k5⟩ := hc
  have HC := Lib.hid (show Cloned w w2 (.slice A2 dn c2) dn dx from ⟨A2, c2, rfl, k1, k2, k3, k4, below_then H.out.2.2 hB2⟩)
  subst hv
  clear hown2 hB2 k1 k2 k3 k4 k5
  go_wp2_with fail
  go_ret
  exact ⟨_, rfl, HC.out⟩

set_option maxHeartbeats 1000000 in
theorem setter_6 (N : Int) (aA : Option Addr) (an ac : Nat) (ax : List Int) (P : Int) (dA : Option Addr) (dn dc : Nat) (dx : List Int) (w : World) (hd : dx.length = dn) (hl : dn ≤ 1000) (hR : Rd w dA dx) :
    Calls Tryz.prog 13 #[.int .i64 6, atV N aA an ac P dA dn dc] w fun e w' => ∃ v, e = .returned (.iface 75 v) ∧ Cloned w w' v dn dx := by
  have hB : Below w.heap.size w (w.alloc (.cells #[.int .u32 N, .slice aA an ac, .int .i64 P, .slice dA dn dc] 26)) := below_alloc _ _
  have H := Lib.hid (And.intro hd (And.intro (hR.below hB) hB))
  clear hd hR hB
  go_enter Tryz.func13, Tryz.ntmps13
  go_wp2_with fail
  refine (cloneB_any dA dn dc dx _ H.out.1 (by omega) H.out.2.1).mono ?_
  rintro e w2 ⟨v2, rfl, hown2, hB2⟩
  have hc := cloned_of hown2 hB2
  obtain ⟨A2, c2, hv, k1, k2, k3, k4, k5⟩ := hc
  have HC := Lib.hid (show Cloned w w2 (.slice A2 dn c2) dn dx from ⟨A2, c2, rfl, k1, k2, k3, k4, below_then H.out.2.2 hB2⟩)
  subst hv
  clear hown2 hB2 k1 k2 k3 k4 k5
  go_wp2_with fail
  go_ret
  exact ⟨_, rfl, HC.out⟩

set_option maxRecDepth 100000 in
set_option maxHeartbeats 1000000 in
theorem setter_2 (N : Int) (aA : Option Addr) (an ac : Nat) (ax : List Int) (P : Int) (dA : Option Addr) (dn dc : Nat) (dx : List Int) (w : World) (ha : ax.length = an) (hl : an ≤ 1000) (hR : Rd w aA ax) :
    Calls Tryz.prog 13 #[.int .i64 2, atV N aA an ac P dA dn dc] w fun e w' => ∃ v, e = .returned (.iface 70 (.agg #[v, .int .i64 P])) ∧ Cloned w w' v an ax := by
  have hB : Below w.heap.size w (w.alloc (.cells #[.int .u32 N, .slice aA an ac, .int .i64 P, .slice dA dn dc] 26)) := below_alloc _ _
  have hb : (w.alloc (.cells #[.int .u32 N, .slice aA an ac, .int .i64 P, .slice dA dn dc] 26)).heap[w.heap.size]? = some (.cells #[.int .u32 N, .slice aA an ac, .int .i64 P, .slice dA dn dc] 26 (0, 0)) := heap_alloc_new _ _
  have H := Lib.hid (And.intro ha (And.intro (hR.below hB) (And.intro hB hb)))
  clear ha hR hB hb
  go_enter Tryz.func13, Tryz.ntmps13
  go_upto_region 8 with fail
  obtain ⟨W, hW⟩ : ∃ W, W = w.alloc (.cells #[.int .u32 N, .slice aA an ac, .int .i64 P, .slice dA dn dc] 26) := ⟨_, rfl⟩
  rw [← hW] at H ⊢
  clear hW
  refine wp_region_held_drew (S := fun w' => w'.cell? ⟨w.heap.size, 1, none⟩ = some (.slice aA an ac) ∧ w'.cell? ⟨w.heap.size, 2, none⟩ = some (.int .i64 P)) (by kernel_rfl) ⟨(blk_cell H.out.2.2.2 1).trans rfl, (blk_cell H.out.2.2.2 2).trans rfl⟩ (fun hHeld => ?_)
  refine wpAnyH_take (i := 0) (v := ?_) rfl (by kernel_rfl) (by kernel_rfl) (by kernel_rfl) (fun _ _ _ h => h) (Or.inl ⟨by rfl, ?_⟩) hHeld ?_
  rotate_left
  · (intro w' hSw; (try dsimp only at hSw); go_simp <;> with_reducible rfl)
  simp only [List.getElem_toArray, List.getElem_cons_succ, List.getElem_cons_zero, Act.put, List.setIfInBounds_toArray, List.set_cons_zero, List.set_cons_succ]
  refine wpAnyH_take (i := 1) (v := ?_) rfl (by kernel_rfl) (by kernel_rfl) (by kernel_rfl) (fun _ _ _ h => h) (Or.inl ⟨by rfl, ?_⟩) hHeld ?_
  rotate_left
  · (intro w' hSw; (try dsimp only at hSw); go_simp <;> with_reducible rfl)
  simp only [List.getElem_toArray, List.getElem_cons_succ, List.getElem_cons_zero, Act.put, List.setIfInBounds_toArray, List.set_cons_zero, List.set_cons_succ]
  refine wpAnyH_take (i := 3) (v := ?_) rfl (by kernel_rfl) (by kernel_rfl) (by kernel_rfl) (fun _ _ _ h => h) (Or.inl ⟨by rfl, ?_⟩) hHeld ?_
  rotate_left
  · (intro w' hSw; (try dsimp only at hSw); go_simp <;> with_reducible rfl)
  simp only [List.getElem_toArray, List.getElem_cons_succ, List.getElem_cons_zero, Act.put, List.setIfInBounds_toArray, List.set_cons_zero, List.set_cons_succ]
  refine wpAnyH_take (i := 4) (v := ?_) rfl (by kernel_rfl) (by kernel_rfl) (by kernel_rfl) (fun _ _ _ h => h) (Or.inl ⟨by rfl, ?_⟩) hHeld ?_
  rotate_left
  · (intro w' hSw; (try dsimp only at hSw); go_simp <;> with_reducible rfl)
  simp only [List.getElem_toArray, List.getElem_cons_succ, List.getElem_cons_zero, Act.put, List.setIfInBounds_toArray, List.set_cons_zero, List.set_cons_succ]
  refine wpAnyH_ready (rs := [2]) (by kernel_rfl) (by simp) ?_
  refine AllReadyH.cons rfl (fun K hK => ?_) AllReadyH.nil
  go_simp
  go_at_call 18
  refine (cloneB_any aA an ac ax W.drew H.out.1 (by omega) H.out.2.1).mono ?_
  rintro e w2 ⟨v2, rfl, hown2, hB2⟩
  have hB2' : Below W.heap.size W w2 := below_drew hB2
  have hc := cloned_of hown2 hB2
  obtain ⟨A2, c2, hv, k1, k2, k3, k4, k5⟩ := hc
  have HC := Lib.hid (show Cloned w w2 (.slice A2 an c2) an ax from ⟨A2, c2, rfl, k1, k2, k3, k4, below_then H.out.2.2.1 hB2'⟩)
  have hb2 := blk_below H.out.2.2.2 hB2'
  refine hK.out _ _ ⟨(blk_cell hb2 1).trans rfl, (blk_cell hb2 2).trans rfl⟩ (fun hHeld => ?_)
  subst hv
  clear hK K hown2 hB2 hB2' hb2 k1 k2 k3 k4 k5
  refine wpAnyH_take (i := 5) (v := ?_) rfl (by kernel_rfl) (by kernel_rfl) (by kernel_rfl) (fun _ _ _ h => h) (Or.inl ⟨by rfl, ?_⟩) hHeld ?_
  rotate_left
  · (intro w' hSw; (try dsimp only at hSw); go_simp <;> with_reducible rfl)
  simp only [List.getElem_toArray, List.getElem_cons_succ, List.getElem_cons_zero, Act.put, List.setIfInBounds_toArray, List.set_cons_zero, List.set_cons_succ]
  refine wpAnyH_take (i := 6) (v := ?_) rfl (by kernel_rfl) (by kernel_rfl) (by kernel_rfl) (fun _ _ _ h => h) (Or.inl ⟨by rfl, ?_⟩) hHeld ?_
  rotate_left
  · (intro w' hSw; (try dsimp only at hSw); go_simp <;> with_reducible rfl)
  simp only [List.getElem_toArray, List.getElem_cons_succ, List.getElem_cons_zero, Act.put, List.setIfInBounds_toArray, List.set_cons_zero, List.set_cons_succ]
  refine wpAnyH_take (i := 7) (v := ?_) rfl (by kernel_rfl) (by kernel_rfl) (by kernel_rfl) (fun _ _ _ h => h) (Or.inl ⟨by rfl, ?_⟩) hHeld ?_
  rotate_left
  · (intro w' hSw; (try dsimp only at hSw); go_simp <;> with_reducible rfl)
  simp only [List.getElem_toArray, List.getElem_cons_succ, List.getElem_cons_zero, Act.put, List.setIfInBounds_toArray, List.set_cons_zero, List.set_cons_succ]
  refine wpAnyH_done (by kernel_rfl) ?_ _
  go_wp2_with fail
  go_ret
  exact ⟨_, rfl, HC.out⟩

set_option maxRecDepth 100000 in
set_option maxHeartbeats 1000000 in
theorem setter_3 (N : Int) (aA : Option Addr) (an ac : Nat) (ax : List Int) (P : Int) (dA : Option Addr) (dn dc : Nat) (dx : List Int) (w : World) (ha : ax.length = an) (hl : an ≤ 1000) (hR : Rd w aA ax) :
    Calls Tryz.prog 13 #[.int .i64 3, atV N aA an ac P dA dn dc] w fun e w' => ∃ v, e = .returned (.iface 71 (.agg #[v, .int .i64 P])) ∧ Cloned w w' v an ax := by
  have hB : Below w.heap.size w (w.alloc (.cells #[.int .u32 N, .slice aA an ac, .int .i64 P, .slice dA dn dc] 26)) := below_alloc _ _
  have hb : (w.alloc (.cells #[.int .u32 N, .slice aA an ac, .int .i64 P, .slice dA dn dc] 26)).heap[w.heap.size]? = some (.cells #[.int .u32 N, .slice aA an ac, .int .i64 P, .slice dA dn dc] 26 (0, 0)) := heap_alloc_new _ _
  have H := Lib.hid (And.intro ha (And.intro (hR.below hB) (And.intro hB hb)))
  clear ha hR hB hb
  go_enter Tryz.func13, Tryz.ntmps13
  go_upto_region 10 with fail
  obtain ⟨W, hW⟩ : ∃ W, W = w.alloc (.cells #[.int .u32 N, .slice aA an ac, .int .i64 P, .slice dA dn dc] 26) := ⟨_, rfl⟩
  rw [← hW] at H ⊢
  clear hW
  refine wp_region_held_drew (S := fun w' => w'.cell? ⟨w.heap.size, 1, none⟩ = some (.slice aA an ac) ∧ w'.cell? ⟨w.heap.size, 2, none⟩ = some (.int .i64 P)) (by kernel_rfl) ⟨(blk_cell H.out.2.2.2 1).trans rfl, (blk_cell H.out.2.2.2 2).trans rfl⟩ (fun hHeld => ?_)
  refine wpAnyH_take (i := 0) (v := ?_) rfl (by kernel_rfl) (by kernel_rfl) (by kernel_rfl) (fun _ _ _ h => h) (Or.inl ⟨by rfl, ?_⟩) hHeld ?_
  rotate_left
  · (intro w' hSw; (try dsimp only at hSw); go_simp <;> with_reducible rfl)
  simp only [List.getElem_toArray, List.getElem_cons_succ, List.getElem_cons_zero, Act.put, List.setIfInBounds_toArray, List.set_cons_zero, List.set_cons_succ]
  refine wpAnyH_take (i := 1) (v := ?_) rfl (by kernel_rfl) (by kernel_rfl) (by kernel_rfl) (fun _ _ _ h => h) (Or.inl ⟨by rfl, ?_⟩) hHeld ?_
  rotate_left
  · (intro w' hSw; (try dsimp only at hSw); go_simp <;> with_reducible rfl)
  simp only [List.getElem_toArray, List.getElem_cons_succ, List.getElem_cons_zero, Act.put, List.setIfInBounds_toArray, List.set_cons_zero, List.set_cons_succ]
  refine wpAnyH_take (i := 3) (v := ?_) rfl (by kernel_rfl) (by kernel_rfl) (by kernel_rfl) (fun _ _ _ h => h) (Or.inl ⟨by rfl, ?_⟩) hHeld ?_
  rotate_left
  · (intro w' hSw; (try dsimp only at hSw); go_simp <;> with_reducible rfl)
  simp only [List.getElem_toArray, List.getElem_cons_succ, List.getElem_cons_zero, Act.put, List.setIfInBounds_toArray, List.set_cons_zero, List.set_cons_succ]
  refine wpAnyH_take (i := 4) (v := ?_) rfl (by kernel_rfl) (by kernel_rfl) (by kernel_rfl) (fun _ _ _ h => h) (Or.inl ⟨by rfl, ?_⟩) hHeld ?_
  rotate_left
  · (intro w' hSw; (try dsimp only at hSw); go_simp <;> with_reducible rfl)
  simp only [List.getElem_toArray, List.getElem_cons_succ, List.getElem_cons_zero, Act.put, List.setIfInBounds_toArray, List.set_cons_zero, List.set_cons_succ]
  refine wpAnyH_ready (rs := [2]) (by kernel_rfl) (by simp) ?_
  refine AllReadyH.cons rfl (fun K hK => ?_) AllReadyH.nil
  go_simp
  go_at_call 18
  refine (cloneB_any aA an ac ax W.drew H.out.1 (by omega) H.out.2.1).mono ?_
  rintro e w2 ⟨v2, rfl, hown2, hB2⟩
  have hB2' : Below W.heap.size W w2 := below_drew hB2
  have hc := cloned_of hown2 hB2
  obtain ⟨A2, c2, hv, k1, k2, k3, k4, k5⟩ := hc
  have HC := Lib.hid (show Cloned w w2 (.slice A2 an c2) an ax from ⟨A2, c2, rfl, k1, k2, k3, k4, below_then H.out.2.2.1 hB2'⟩)
  have hb2 := blk_below H.out.2.2.2 hB2'
  refine hK.out _ _ ⟨(blk_cell hb2 1).trans rfl, (blk_cell hb2 2).trans rfl⟩ (fun hHeld => ?_)
  subst hv
  clear hK K hown2 hB2 hB2' hb2 k1 k2 k3 k4 k5
  refine wpAnyH_take (i := 5) (v := ?_) rfl (by kernel_rfl) (by kernel_rfl) (by kernel_rfl) (fun _ _ _ h => h) (Or.inl ⟨by rfl, ?_⟩) hHeld ?_
  rotate_left
  · (intro w' hSw; (try dsimp only at hSw); go_simp <;> with_reducible rfl)
  simp only [List.getElem_toArray, List.getElem_cons_succ, List.getElem_cons_zero, Act.put, List.setIfInBounds_toArray, List.set_cons_zero, List.set_cons_succ]
  refine wpAnyH_take (i := 6) (v := ?_) rfl (by kernel_rfl) (by kernel_rfl) (by kernel_rfl) (fun _ _ _ h => h) (Or.inl ⟨by rfl, ?_⟩) hHeld ?_
  rotate_left
  · (intro w' hSw; (try dsimp only at hSw); go_simp <;> with_reducible rfl)
  simp only [List.getElem_toArray, List.getElem_cons_succ, List.getElem_cons_zero, Act.put, List.setIfInBounds_toArray, List.set_cons_zero, List.set_cons_succ]
  refine wpAnyH_take (i := 7) (v := ?_) rfl (by kernel_rfl) (by kernel_rfl) (by kernel_rfl) (fun _ _ _ h => h) (Or.inl ⟨by rfl, ?_⟩) hHeld ?_
  rotate_left
  · (intro w' hSw; (try dsimp only at hSw); go_simp <;> with_reducible rfl)
  simp only [List.getElem_toArray, List.getElem_cons_succ, List.getElem_cons_zero, Act.put, List.setIfInBounds_toArray, List.set_cons_zero, List.set_cons_succ]
  refine wpAnyH_done (by kernel_rfl) ?_ _
  go_wp2_with fail
  go_ret
  exact ⟨_, rfl, HC.out⟩

end Go.Proofs.YthgghgejndncnaaGreat
