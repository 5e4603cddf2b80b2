/- GetFrom of the attributes that are no addresses: a message that has the attribute; one that has none. -/
import Derived.Test.YthgghgejndncnaaGreatM5
import Derived.WalkSpells
import Derived.WalkLawsBesides
namespace Go.Proofs.YthgghgejndncnaaGreat
open Go.RowKit
set_option linter.unusedSimpArgs false
set_option linter.unusedVariables false

set_option maxHeartbeats 2000000 in
theorem gChannel_yes (g r : Nat) (a b c d : Int) (id : List Int) (w : World) (h : MsgHas w g 12 [a, b, c, d] id) (hr : w.heap[r]? = some (.cells #[.int .u16 0] 63 (0, 0))) (ha : 0 ≤ a ∧ a ≤ 255) (hb : 0 ≤ b ∧ b ≤ 255) :
    Calls Tryz.prog 32 #[.pointer (some ⟨r, 0, none⟩), .pointer (some ⟨g, 0, none⟩)] w fun e w' => e = .returned .nilIface ∧ w'.heap[r]? = some (.cells #[.int .u16 (a * 256 + b)] 63 (0, 0)) ∧ Kept [r] w w' := by
  have H := Lib.hid h
  have HR := Lib.hid hr
  clear h hr
  go_enter Tryz.func32, Tryz.ntmps32
  go_wp2_with (first
    | (go_at_call 58; refine (mGet_yes g 12 _ id _ H.out).mono ?_; rintro e w1 ⟨A, n, cc, rfl, hn, hnc, hR, hB⟩; obtain rfl : n = 4 := by simpa using hn.symm)
    | (go_at_call 59; refine (checkSize_yes 12 4 4 _ rfl).mono ?_; rintro e w2 ⟨rfl, rfl⟩; obtain ⟨bb, oo, rfl, hcell⟩ := hR (by simp); have x0 := hcell 0 (by simp); have x1 := hcell 1 (by simp); have x2 := hcell 2 (by simp); have x3 := hcell 3 (by simp); simp only [Nat.add_zero, List.getD_cons_zero, List.getD_cons_succ] at x0 x1 x2 x3; have HB := Lib.hid hB; have e0 : w1.cell? ⟨r, 0, none⟩ = some (.int .u16 0) := (blk_cell (blk_below HR.out hB) 0).trans rfl; have f0 := blk_free (blk_below HR.out hB) 0; clear hR hcell hB hn)
    | (go_at_call 60; refine (tbe16_any bb oo 2 cc a b _ (by omega) ha hb ?_ ?_).mono ?_; (first | exact x0 | (go_simp; done)); (first | exact x1 | (go_simp; done)); rintro e w3 ⟨rfl, k, rfl⟩))
  go_ret
  exact ⟨rfl, blk_set (blk_below HR.out HB.out) 0 _, by
    have hk : Kept [r] w w1 := Kept.of_below HB.out
    repeat (first | exact hk | apply Kept.drewN | apply Kept.drew | (refine Kept.setCell ?_ (by simp) _))⟩

set_option maxHeartbeats 2000000 in
theorem gLifetime_yes (g r : Nat) (a b c d : Int) (id : List Int) (w : World) (h : MsgHas w g 13 [a, b, c, d] id) (hr : w.heap[r]? = some (.cells #[.int .i64 0] 67 (0, 0))) (ha : 0 ≤ a ∧ a ≤ 255) (hb : 0 ≤ b ∧ b ≤ 255) (hc : 0 ≤ c ∧ c ≤ 255) (hd : 0 ≤ d ∧ d ≤ 255) :
    Calls Tryz.prog 33 #[.pointer (some ⟨r, 0, none⟩), .pointer (some ⟨g, 0, none⟩)] w fun e w' => e = .returned .nilIface ∧ w'.heap[r]? = some (.cells #[.int .i64 (1000000000 * (a * 16777216 + b * 65536 + c * 256 + d))] 67 (0, 0)) ∧ Kept [r] w w' := by
  have H := Lib.hid h
  have HR := Lib.hid hr
  clear h hr
  go_enter Tryz.func33, Tryz.ntmps33
  go_wp2_with (first
    | (go_at_call 58; refine (mGet_yes g 13 _ id _ H.out).mono ?_; rintro e w1 ⟨A, n, cc, rfl, hn, hnc, hR, hB⟩; obtain rfl : n = 4 := by simpa using hn.symm)
    | (go_at_call 59; refine (checkSize_yes 13 4 4 _ rfl).mono ?_; rintro e w2 ⟨rfl, rfl⟩; obtain ⟨bb, oo, rfl, hcell⟩ := hR (by simp); have x0 := hcell 0 (by simp); have x1 := hcell 1 (by simp); have x2 := hcell 2 (by simp); have x3 := hcell 3 (by simp); simp only [Nat.add_zero, List.getD_cons_zero, List.getD_cons_succ] at x0 x1 x2 x3; have HB := Lib.hid hB; have e0 : w1.cell? ⟨r, 0, none⟩ = some (.int .i64 0) := (blk_cell (blk_below HR.out hB) 0).trans rfl; have f0 := blk_free (blk_below HR.out hB) 0; clear hR hcell hB hn)
    | (go_at_call 61; refine (tbe32_any bb oo 4 cc a b c d _ (by omega) ha hb hc hd ?_ ?_ ?_ ?_).mono ?_; (first | exact x0 | (go_simp; done)); (first | exact x1 | (go_simp; done)); (first | exact x2 | (go_simp; done)); (first | exact x3 | (go_simp; done)); rintro e w3 ⟨rfl, k, rfl⟩))
  go_ret
  exact ⟨rfl, blk_set (blk_below HR.out HB.out) 0 _, by
    have hk : Kept [r] w w1 := Kept.of_below HB.out
    repeat (first | exact hk | apply Kept.drewN | apply Kept.drew | (refine Kept.setCell ?_ (by simp) _))⟩

set_option maxHeartbeats 2000000 in
theorem gTransport_yes (g r : Nat) (a b c d : Int) (id : List Int) (w : World) (h : MsgHas w g 25 [a, b, c, d] id) (hr : w.heap[r]? = some (.cells #[.int .u8 0] 78 (0, 0)))  :
    Calls Tryz.prog 42 #[.pointer (some ⟨r, 0, none⟩), .pointer (some ⟨g, 0, none⟩)] w fun e w' => e = .returned .nilIface ∧ w'.heap[r]? = some (.cells #[.int .u8 a] 78 (0, 0)) ∧ Kept [r] w w' := by
  have H := Lib.hid h
  have HR := Lib.hid hr
  clear h hr
  go_enter Tryz.func42, Tryz.ntmps42
  go_wp2_with (first
    | (go_at_call 58; refine (mGet_yes g 25 _ id _ H.out).mono ?_; rintro e w1 ⟨A, n, cc, rfl, hn, hnc, hR, hB⟩; obtain rfl : n = 4 := by simpa using hn.symm)
    | (go_at_call 59; refine (checkSize_yes 25 4 4 _ rfl).mono ?_; rintro e w2 ⟨rfl, rfl⟩; obtain ⟨bb, oo, rfl, hcell⟩ := hR (by simp); have x0 := hcell 0 (by simp); have x1 := hcell 1 (by simp); have x2 := hcell 2 (by simp); have x3 := hcell 3 (by simp); simp only [Nat.add_zero, List.getD_cons_zero, List.getD_cons_succ] at x0 x1 x2 x3; have HB := Lib.hid hB; have e0 : w1.cell? ⟨r, 0, none⟩ = some (.int .u8 0) := (blk_cell (blk_below HR.out hB) 0).trans rfl; have f0 := blk_free (blk_below HR.out hB) 0; clear hR hcell hB hn))
  go_ret
  exact ⟨rfl, blk_set (blk_below HR.out HB.out) 0 _, by
    have hk : Kept [r] w w1 := Kept.of_below HB.out
    repeat (first | exact hk | apply Kept.drewN | apply Kept.drew | (refine Kept.setCell ?_ (by simp) _))⟩

set_option maxHeartbeats 2000000 in
theorem gFamily_yes (g r : Nat) (a b c d : Int) (id : List Int) (w : World) (h : MsgHas w g 23 [a, b, c, d] id) (hr : w.heap[r]? = some (.cells #[.int .u8 0] 79 (0, 0))) (ha : a = 1 ∨ a = 2) :
    Calls Tryz.prog 43 #[.pointer (some ⟨r, 0, none⟩), .pointer (some ⟨g, 0, none⟩)] w fun e w' => e = .returned .nilIface ∧ w'.heap[r]? = some (.cells #[.int .u8 a] 79 (0, 0)) ∧ Kept [r] w w' := by
  have H := Lib.hid h
  have HR := Lib.hid hr
  clear h hr
  have t0 : (a == 1) = true ∨ ((a == 1) = false ∧ (a == 2) = true) := by rcases ha with rfl | rfl <;> simp
  rcases t0 with t0 | ⟨t0, t1⟩
  all_goals
    go_enter Tryz.func43, Tryz.ntmps43
    go_wp2_with (first
      | (go_at_call 58; refine (mGet_yes g 23 _ id _ H.out).mono ?_; rintro e w1 ⟨A, n, cc, rfl, hn, hnc, hR, hB⟩; obtain rfl : n = 4 := by simpa using hn.symm)
      | (go_at_call 59; refine (checkSize_yes 23 4 4 _ rfl).mono ?_; rintro e w2 ⟨rfl, rfl⟩; obtain ⟨bb, oo, rfl, hcell⟩ := hR (by simp); have x0 := hcell 0 (by simp); have x1 := hcell 1 (by simp); have x2 := hcell 2 (by simp); have x3 := hcell 3 (by simp); simp only [Nat.add_zero, List.getD_cons_zero, List.getD_cons_succ] at x0 x1 x2 x3; have HB := Lib.hid hB; have e0 : w1.cell? ⟨r, 0, none⟩ = some (.int .u8 0) := (blk_cell (blk_below HR.out hB) 0).trans rfl; have f0 := blk_free (blk_below HR.out hB) 0; clear hR hcell hB hn))
    go_ret
    exact ⟨rfl, blk_set (blk_below HR.out HB.out) 0 _, by
      have hk : Kept [r] w w1 := Kept.of_below HB.out
      repeat (first | exact hk | apply Kept.drewN | apply Kept.drew | (refine Kept.setCell ?_ (by simp) _))⟩

set_option maxHeartbeats 2000000 in
theorem gConnection_yes (g r : Nat) (a b c d : Int) (id : List Int) (w : World) (h : MsgHas w g 42 [a, b, c, d] id) (hr : w.heap[r]? = some (.cells #[.int .u32 0] 82 (0, 0))) (ha : 0 ≤ a ∧ a ≤ 255) (hb : 0 ≤ b ∧ b ≤ 255) (hc : 0 ≤ c ∧ c ≤ 255) (hd : 0 ≤ d ∧ d ≤ 255) :
    Calls Tryz.prog 45 #[.pointer (some ⟨r, 0, none⟩), .pointer (some ⟨g, 0, none⟩)] w fun e w' => e = .returned .nilIface ∧ w'.heap[r]? = some (.cells #[.int .u32 (a * 16777216 + b * 65536 + c * 256 + d)] 82 (0, 0)) ∧ Kept [r] w w' := by
  have H := Lib.hid h
  have HR := Lib.hid hr
  clear h hr
  go_enter Tryz.func45, Tryz.ntmps45
  go_wp2_with (first
    | (go_at_call 58; refine (mGet_yes g 42 _ id _ H.out).mono ?_; rintro e w1 ⟨A, n, cc, rfl, hn, hnc, hR, hB⟩; obtain rfl : n = 4 := by simpa using hn.symm)
    | (go_at_call 59; refine (checkSize_yes 42 4 4 _ rfl).mono ?_; rintro e w2 ⟨rfl, rfl⟩; obtain ⟨bb, oo, rfl, hcell⟩ := hR (by simp); have x0 := hcell 0 (by simp); have x1 := hcell 1 (by simp); have x2 := hcell 2 (by simp); have x3 := hcell 3 (by simp); simp only [Nat.add_zero, List.getD_cons_zero, List.getD_cons_succ] at x0 x1 x2 x3; have HB := Lib.hid hB; have e0 : w1.cell? ⟨r, 0, none⟩ = some (.int .u32 0) := (blk_cell (blk_below HR.out hB) 0).trans rfl; have f0 := blk_free (blk_below HR.out hB) 0; clear hR hcell hB hn)
    | (go_at_call 61; refine (tbe32_any bb oo 4 cc a b c d _ (by omega) ha hb hc hd ?_ ?_ ?_ ?_).mono ?_; (first | exact x0 | (go_simp; done)); (first | exact x1 | (go_simp; done)); (first | exact x2 | (go_simp; done)); (first | exact x3 | (go_simp; done)); rintro e w3 ⟨rfl, k, rfl⟩))
  go_ret
  exact ⟨rfl, blk_set (blk_below HR.out HB.out) 0 _, by
    have hk : Kept [r] w w1 := Kept.of_below HB.out
    repeat (first | exact hk | apply Kept.drewN | apply Kept.drew | (refine Kept.setCell ?_ (by simp) _))⟩

theorem gChannel_no (g r : Nat) (t : Int) (v id : List Int) (w : World) (h : MsgHas w g t v id) (ht : t ≠ 12) :
    Calls Tryz.prog 32 #[.pointer (some ⟨r, 0, none⟩), .pointer (some ⟨g, 0, none⟩)] w fun e w' => ∃ u x, e = .returned (.iface u x) ∧ Below w.heap.size w w' := by
  have H := Lib.hid h
  clear h
  go_enter Tryz.func32, Tryz.ntmps32
  go_wp2_with (go_at_call 58; refine (mGet_no g t 12 v id _ H.out ht).mono ?_; rintro e w1 ⟨u, x, rfl, hB⟩)
  go_ret
  exact ⟨_, _, rfl, hB⟩

theorem gLifetime_no (g r : Nat) (t : Int) (v id : List Int) (w : World) (h : MsgHas w g t v id) (ht : t ≠ 13) :
    Calls Tryz.prog 33 #[.pointer (some ⟨r, 0, none⟩), .pointer (some ⟨g, 0, none⟩)] w fun e w' => ∃ u x, e = .returned (.iface u x) ∧ Below w.heap.size w w' := by
  have H := Lib.hid h
  clear h
  go_enter Tryz.func33, Tryz.ntmps33
  go_wp2_with (go_at_call 58; refine (mGet_no g t 13 v id _ H.out ht).mono ?_; rintro e w1 ⟨u, x, rfl, hB⟩)
  go_ret
  exact ⟨_, _, rfl, hB⟩

theorem gData_no (g r : Nat) (t : Int) (v id : List Int) (w : World) (h : MsgHas w g t v id) (ht : t ≠ 19) :
    Calls Tryz.prog 37 #[.pointer (some ⟨r, 0, none⟩), .pointer (some ⟨g, 0, none⟩)] w fun e w' => ∃ u x, e = .returned (.iface u x) ∧ Below w.heap.size w w' := by
  have H := Lib.hid h
  clear h
  go_enter Tryz.func37, Tryz.ntmps37
  go_wp2_with (go_at_call 58; refine (mGet_no g t 19 v id _ H.out ht).mono ?_; rintro e w1 ⟨u, x, rfl, hB⟩)
  go_ret
  exact ⟨_, _, rfl, hB⟩

theorem gEven_no (g r : Nat) (t : Int) (v id : List Int) (w : World) (h : MsgHas w g t v id) (ht : t ≠ 24) :
    Calls Tryz.prog 39 #[.pointer (some ⟨r, 0, none⟩), .pointer (some ⟨g, 0, none⟩)] w fun e w' => ∃ u x, e = .returned (.iface u x) ∧ Below w.heap.size w w' := by
  have H := Lib.hid h
  clear h
  go_enter Tryz.func39, Tryz.ntmps39
  go_wp2_with (go_at_call 58; refine (mGet_no g t 24 v id _ H.out ht).mono ?_; rintro e w1 ⟨u, x, rfl, hB⟩)
  go_ret
  exact ⟨_, _, rfl, hB⟩

theorem gToken_no (g r : Nat) (t : Int) (v id : List Int) (w : World) (h : MsgHas w g t v id) (ht : t ≠ 34) :
    Calls Tryz.prog 40 #[.pointer (some ⟨r, 0, none⟩), .pointer (some ⟨g, 0, none⟩)] w fun e w' => ∃ u x, e = .returned (.iface u x) ∧ Below w.heap.size w w' := by
  have H := Lib.hid h
  clear h
  go_enter Tryz.func40, Tryz.ntmps40
  go_wp2_with (go_at_call 58; refine (mGet_no g t 34 v id _ H.out ht).mono ?_; rintro e w1 ⟨u, x, rfl, hB⟩)
  go_ret
  exact ⟨_, _, rfl, hB⟩

theorem gTransport_no (g r : Nat) (t : Int) (v id : List Int) (w : World) (h : MsgHas w g t v id) (ht : t ≠ 25) :
    Calls Tryz.prog 42 #[.pointer (some ⟨r, 0, none⟩), .pointer (some ⟨g, 0, none⟩)] w fun e w' => ∃ u x, e = .returned (.iface u x) ∧ Below w.heap.size w w' := by
  have H := Lib.hid h
  clear h
  go_enter Tryz.func42, Tryz.ntmps42
  go_wp2_with (go_at_call 58; refine (mGet_no g t 25 v id _ H.out ht).mono ?_; rintro e w1 ⟨u, x, rfl, hB⟩)
  go_ret
  exact ⟨_, _, rfl, hB⟩

theorem gFamily_no (g r : Nat) (t : Int) (v id : List Int) (w : World) (h : MsgHas w g t v id) (ht : t ≠ 23) :
    Calls Tryz.prog 43 #[.pointer (some ⟨r, 0, none⟩), .pointer (some ⟨g, 0, none⟩)] w fun e w' => ∃ u x, e = .returned (.iface u x) ∧ Below w.heap.size w w' := by
  have H := Lib.hid h
  clear h
  go_enter Tryz.func43, Tryz.ntmps43
  go_wp2_with (go_at_call 58; refine (mGet_no g t 23 v id _ H.out ht).mono ?_; rintro e w1 ⟨u, x, rfl, hB⟩)
  go_ret
  exact ⟨_, _, rfl, hB⟩

theorem gFragment_no (g r : Nat) (t : Int) (v id : List Int) (w : World) (h : MsgHas w g t v id) (ht : t ≠ 26) :
    Calls Tryz.prog 44 #[.pointer (some ⟨r, 0, none⟩), .pointer (some ⟨g, 0, none⟩)] w fun e w' => ∃ u x, e = .returned (.iface u x) ∧ Below w.heap.size w w' := by
  have H := Lib.hid h
  clear h
  go_enter Tryz.func44, Tryz.ntmps44
  go_wp2_with (go_at_call 58; refine (mGet_no g t 26 v id _ H.out ht).mono ?_; rintro e w1 ⟨u, x, rfl, hB⟩)
  go_ret
  exact ⟨_, _, rfl, hB⟩

theorem gConnection_no (g r : Nat) (t : Int) (v id : List Int) (w : World) (h : MsgHas w g t v id) (ht : t ≠ 42) :
    Calls Tryz.prog 45 #[.pointer (some ⟨r, 0, none⟩), .pointer (some ⟨g, 0, none⟩)] w fun e w' => ∃ u x, e = .returned (.iface u x) ∧ Below w.heap.size w w' := by
  have H := Lib.hid h
  clear h
  go_enter Tryz.func45, Tryz.ntmps45
  go_wp2_with (go_at_call 58; refine (mGet_no g t 42 v id _ H.out ht).mono ?_; rintro e w1 ⟨u, x, rfl, hB⟩)
  go_ret
  exact ⟨_, _, rfl, hB⟩

end Go.Proofs.YthgghgejndncnaaGreat
