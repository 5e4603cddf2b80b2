/- 'AddTo' of the kinds that are no addresses. -/
import Derived.Test.YthgghgejndncnaaGreatMAdd2
import Derived.Test.YthgghgejndncnaaGreatM2
import Derived.Test.YthgghgejndncnaaGreatM5
namespace Go.Proofs.YthgghgejndncnaaGreat
open Go.RowKit
set_option linter.unusedSimpArgs false
set_option linter.unusedVariables false

/-- a new message with its header -/
def Fresh (w : World) (g rb : Nat) (id bs : List Int) : Prop := RawMsg w g rb 0 id (.slice none 0 0) 20 bs ∧ bs.take 20 = hdrB 0 id ∧ 120 ≤ bs.length
/-- an attribute has been added -/
def Added (w w' : World) (g rb : Nat) (id : List Int) (t : Int) (v : List Int) : Prop :=
  ∃ rb' bs' at', RawMsg w' g rb' (4 + (pad4 v.length : Int)) id at' (24 + pad4 v.length) bs' ∧ bs'.take (24 + pad4 v.length) = hdrB (4 + (pad4 v.length : Int)) id ++ attrB t v ∧ (rb' = rb ∨ w.heap.size ≤ rb') ∧ Kept [g, rb] w w'

section
variable {w w0 w' : World} {g rb : Nat} {id bs : List Int} {t : Int} {v : List Int}
theorem Fresh.below (h : Fresh w g rb id bs) (k : Below w.heap.size w w') : Fresh w' g rb id bs := ⟨h.1.below k, h.2⟩
theorem Fresh.ne (h : Fresh w g rb id bs) {k : Nat} (hk : w.heap.size ≤ k) : k ≠ g ∧ k ≠ rb := by have := h.1.lt; omega
theorem Added.before (h : Added w w' g rb id t v) (k : Below w0.heap.size w0 w) : Added w0 w' g rb id t v := by
  obtain ⟨rb', bs', at', h1, h2, h3, h4⟩ := h
  refine ⟨rb', bs', at', h1, h2, ?_, (Kept.of_below (S := [g, rb]) k).trans h4 (fun x hx => .inl hx)⟩
  rcases h3 with rfl | h3
  · exact .inl rfl
  · exact .inr (Nat.le_trans k.size h3)
end

theorem mAdd_f (g rb : Nat) (id bs : List Int) (t : Int) (A : Option Addr) (l c : Nat) (v : List Int) (w0 w : World) (h : Fresh w0 g rb id bs) (hk : Below w0.heap.size w0 w) (ht : 0 ≤ t ∧ t ≤ 255) (hv : v.length = l) (hl : l ≤ 1000) (hR : Rd w A v) (hA : ∀ a, A = some a → a.block ≠ g ∧ a.block ≠ rb) :
    Calls Tryz.prog 91 #[.pointer (some ⟨g, 0, none⟩), .int .u16 t, .slice A l c] w fun e w' => e = .returned (.tuple #[]) ∧ Added w0 w' g rb id t v := by
  have h1 := h.below hk
  refine (mAdd_any g rb id bs t A l c v w h1.1 h1.2.1 h1.2.2 ht hv hl hR hA).mono ?_
  rintro e w' ⟨rfl, rb', bs', at', a1, a2, a3, a4⟩
  subst hv
  exact ⟨rfl, Added.before ⟨rb', bs', at', a1, a2, a3, a4⟩ hk⟩

theorem at_new {w : World} {b g rb : Nat} {id bs : List Int} (h : Fresh w g rb id bs) (hb : w.heap.size ≤ b) : ∀ a : Addr, some (⟨b, 0, none⟩ : Addr) = some a → a.block ≠ g ∧ a.block ≠ rb := fun a e => by
  injection e with e
  subst e
  exact h.ne hb

set_option maxHeartbeats 1000000 in
theorem aChannel_any (N : Int) (hN : 0 ≤ N ∧ N ≤ 65535) (g rb : Nat) (id bs : List Int) (w : World) (h : Fresh w g rb id bs) :
    Calls Tryz.prog 88 #[.int .u16 N, .pointer (some ⟨g, 0, none⟩)] w fun e w' => e = .returned .nilIface ∧ Added w w' g rb id 12 [N / 256, N % 256, 0, 0] := by
  have hmk : ∀ w, (Instr.makeSlice 24 (.int .i64 4) (.int .i64 4)).run Tryz.prog w = .ok (.slice (some ⟨w.heap.size, 0, none⟩) 4 4) (w.alloc (.cells #[.int .u8 0, .int .u8 0, .int .u8 0, .int .u8 0] 5)) := fun _ => by kernel_rfl
  have H := Lib.hid h
  clear h
  go_enter Tryz.func88, Tryz.ntmps88
  go_wp2_with fail
  refine (tput16_any w.heap.size 0 2 4 N (.int .u8 0) (.int .u8 0) _ (by omega) hN (by go_simp) (by go_simp) (by go_simp) (by go_simp)).mono ?_
  rintro e w2 ⟨rfl, hw2⟩
  have hb2 : w2.heap[w.heap.size]? = some (.cells (nums [N / 256, N % 256, 0, 0]).toArray 5 (0, 0)) := by
    rw [hw2]; exact blk_set (blk_set (heap_alloc_new w _) 0 _) 1 _
  have hB2 : Below w.heap.size w w2 := by rw [hw2]; exact (((Kept.refl [] w).alloc _).setCell (.inr (Nat.le_refl _)) _ |>.setCell (.inr (Nat.le_refl _)) _).toBelow
  have HB := Lib.hid (And.intro hb2 hB2)
  clear hw2 hb2 hB2 hmk
  go_wp2_with fail
  refine (mAdd_f g rb id bs 12 (some ⟨w.heap.size, 0, none⟩) 4 4 [N / 256, N % 256, 0, 0] w _ H.out HB.out.2 (by omega) rfl (by omega) (rd_blk HB.out.1) (at_new H.out (Nat.le_refl _))).mono ?_
  rintro e w3 ⟨rfl, hA⟩
  have HA := Lib.hid hA
  clear hA
  go_wp2_with fail
  go_ret
  exact ⟨rfl, HA.out⟩

set_option maxHeartbeats 1000000 in
theorem aConnection_any (N : Int) (hN : 0 ≤ N ∧ N ≤ 4294967295) (g rb : Nat) (id bs : List Int) (w : World) (h : Fresh w g rb id bs) :
    Calls Tryz.prog 115 #[.int .u32 N, .pointer (some ⟨g, 0, none⟩)] w fun e w' => e = .returned .nilIface ∧ Added w w' g rb id 42 [N / 16777216, N / 65536 % 256, N / 256 % 256, N % 256] := by
  have hmk : ∀ w, (Instr.makeSlice 24 (.int .i64 4) (.int .i64 4)).run Tryz.prog w = .ok (.slice (some ⟨w.heap.size, 0, none⟩) 4 4) (w.alloc (.cells #[.int .u8 0, .int .u8 0, .int .u8 0, .int .u8 0] 5)) := fun _ => by kernel_rfl
  have H := Lib.hid h
  clear h
  go_enter Tryz.func115, Tryz.ntmps115
  go_wp2_with fail
  refine (tput32_any w.heap.size 0 4 4 N (.int .u8 0) (.int .u8 0) (.int .u8 0) (.int .u8 0) _ (by omega) hN (by go_simp) (by go_simp) (by go_simp) (by go_simp) (by go_simp) (by go_simp) (by go_simp) (by go_simp)).mono ?_
  rintro e w2 ⟨rfl, hw2⟩
  have hb2 : w2.heap[w.heap.size]? = some (.cells (nums [N / 16777216, N / 65536 % 256, N / 256 % 256, N % 256]).toArray 5 (0, 0)) := by
    rw [hw2]; exact blk_set (blk_set (blk_set (blk_set (heap_alloc_new w _) 0 _) 1 _) 2 _) 3 _
  have hB2 : Below w.heap.size w w2 := by rw [hw2]; exact (((((Kept.refl [] w).alloc _).setCell (.inr (Nat.le_refl _)) _).setCell (.inr (Nat.le_refl _)) _).setCell (.inr (Nat.le_refl _)) _ |>.setCell (.inr (Nat.le_refl _)) _).toBelow
  have HB := Lib.hid (And.intro hb2 hB2)
  clear hw2 hb2 hB2 hmk
  go_wp2_with fail
  refine (mAdd_f g rb id bs 42 (some ⟨w.heap.size, 0, none⟩) 4 4 [N / 16777216, N / 65536 % 256, N / 256 % 256, N % 256] w _ H.out HB.out.2 (by omega) rfl (by omega) (rd_blk HB.out.1) (at_new H.out (Nat.le_refl _))).mono ?_
  rintro e w3 ⟨rfl, hA⟩
  have HA := Lib.hid hA
  clear hA
  go_wp2_with fail
  go_ret
  exact ⟨rfl, HA.out⟩

set_option maxHeartbeats 1000000 in
theorem aData_any (A : Option Addr) (l c : Nat) (v : List Int) (g rb : Nat) (id bs : List Int) (w : World) (h : Fresh w g rb id bs) (hv : v.length = l) (hl : l ≤ 1000) (hR : Rd w A v) (hA : ∀ a, A = some a → a.block ≠ g ∧ a.block ≠ rb) :
    Calls Tryz.prog 104 #[.slice A l c, .pointer (some ⟨g, 0, none⟩)] w fun e w' => e = .returned .nilIface ∧ Added w w' g rb id 19 v := by
  have H := Lib.hid (And.intro h (And.intro hv (And.intro hR hA)))
  clear h hv hR hA
  go_enter Tryz.func104, Tryz.ntmps104
  go_wp2_with fail
  refine (mAdd_f g rb id bs 19 A l c v w _ H.out.1 (Below.refl _ _) (by omega) H.out.2.1 hl H.out.2.2.1 H.out.2.2.2).mono ?_
  rintro e w3 ⟨rfl, hA⟩
  have HA := Lib.hid hA
  clear hA
  go_wp2_with fail
  go_ret
  exact ⟨rfl, HA.out⟩

set_option maxHeartbeats 1000000 in
theorem aToken_any (A : Option Addr) (c : Nat) (v : List Int) (g rb : Nat) (id bs : List Int) (w : World) (h : Fresh w g rb id bs) (hv : v.length = 8) (hR : Rd w A v) (hA : ∀ a, A = some a → a.block ≠ g ∧ a.block ≠ rb) :
    Calls Tryz.prog 107 #[.slice A 8 c, .pointer (some ⟨g, 0, none⟩)] w fun e w' => e = .returned .nilIface ∧ Added w w' g rb id 34 v := by
  have H := Lib.hid (And.intro h (And.intro hv (And.intro hR hA)))
  clear h hv hR hA
  go_enter Tryz.func107, Tryz.ntmps107
  go_wp2_with (go_at_call 59; refine (checkSize_yes _ _ _ _ rfl).mono ?_; rintro e w' ⟨rfl, rfl⟩)
  refine (mAdd_f g rb id bs 34 A 8 c v w _ H.out.1 (Below.refl _ _) (by omega) H.out.2.1 (by omega) H.out.2.2.1 H.out.2.2.2).mono ?_
  rintro e w3 ⟨rfl, hA⟩
  have HA := Lib.hid hA
  clear hA
  go_wp2_with fail
  go_ret
  exact ⟨rfl, HA.out⟩

set_option maxHeartbeats 1000000 in
theorem aFragment_any (g rb : Nat) (id bs : List Int) (w : World) (h : Fresh w g rb id bs) :
    Calls Tryz.prog 113 #[.agg #[], .pointer (some ⟨g, 0, none⟩)] w fun e w' => e = .returned .nilIface ∧ Added w w' g rb id 26 [] := by
  have H := Lib.hid h
  clear h
  go_enter Tryz.func113, Tryz.ntmps113
  go_wp2_with fail
  refine (mAdd_f g rb id bs 26 none 0 0 [] w _ H.out ?_ (by omega) rfl (by omega) (Rd.nil _ _) (fun a e => by cases e)).mono ?_
  · exact below_alloc _ _
  rintro e w3 ⟨rfl, hA⟩
  have HA := Lib.hid hA
  clear hA
  go_wp2_with fail
  go_ret
  exact ⟨rfl, HA.out⟩

set_option maxHeartbeats 1000000 in
theorem aFamily_any (N : Int) (hN : 0 ≤ N ∧ N ≤ 255) (g rb : Nat) (id bs : List Int) (w : World) (h : Fresh w g rb id bs) :
    Calls Tryz.prog 111 #[.int .u8 N, .pointer (some ⟨g, 0, none⟩)] w fun e w' => e = .returned .nilIface ∧ Added w w' g rb id 23 [N, 0, 0, 0] := by
  have hmk : ∀ w, (Instr.makeSlice 24 (.int .i64 4) (.int .i64 4)).run Tryz.prog w = .ok (.slice (some ⟨w.heap.size, 0, none⟩) 4 4) (w.alloc (.cells #[.int .u8 0, .int .u8 0, .int .u8 0, .int .u8 0] 5)) := fun _ => by kernel_rfl
  have H := Lib.hid h
  clear h
  go_enter Tryz.func111, Tryz.ntmps111
  go_wp2_with fail
  refine (mAdd_f g rb id bs 23 (some ⟨w.heap.size, 0, none⟩) 4 4 [N, 0, 0, 0] w _ H.out ?_ (by omega) rfl (by omega) ?_ (at_new H.out (Nat.le_refl _))).mono ?_
  · exact below_alloc _ _
  · exact rd_blk (fr := (0, 0)) (heap_alloc_new w _)
  rintro e w3 ⟨rfl, hA⟩
  have HA := Lib.hid hA
  clear hA
  go_wp2_with fail
  go_ret
  exact ⟨rfl, HA.out⟩

set_option maxHeartbeats 1000000 in
theorem aTransport_any (N : Int) (hN : 0 ≤ N ∧ N ≤ 255) (g rb : Nat) (id bs : List Int) (w : World) (h : Fresh w g rb id bs) :
    Calls Tryz.prog 109 #[.agg #[.int .u8 N], .pointer (some ⟨g, 0, none⟩)] w fun e w' => e = .returned .nilIface ∧ Added w w' g rb id 25 [N, 0, 0, 0] := by
  have hmk : ∀ w, (Instr.makeSlice 24 (.int .i64 4) (.int .i64 4)).run Tryz.prog w = .ok (.slice (some ⟨w.heap.size, 0, none⟩) 4 4) (w.alloc (.cells #[.int .u8 0, .int .u8 0, .int .u8 0, .int .u8 0] 5)) := fun _ => by kernel_rfl
  have H := Lib.hid h
  clear h
  go_enter Tryz.func109, Tryz.ntmps109
  go_wp2_with fail
  refine (mAdd_f g rb id bs 25 (some ⟨w.heap.size + 1, 0, none⟩) 4 4 [N, 0, 0, 0] w _ H.out ?_ (by omega) rfl (by omega) ?_ (at_new H.out (by omega))).mono ?_
  · exact below_then (below_alloc _ _) (below_alloc _ _)
  · exact rd_blk (fr := (0, 0)) (heap_at _ _ _ (by simp))
  rintro e w3 ⟨rfl, hA⟩
  have HA := Lib.hid hA
  clear hA
  go_wp2_with fail
  go_ret
  exact ⟨rfl, HA.out⟩

set_option maxHeartbeats 1000000 in
theorem aEven_any (b : Bool) (g rb : Nat) (id bs : List Int) (w : World) (h : Fresh w g rb id bs) :
    Calls Tryz.prog 105 #[.agg #[.bool b], .pointer (some ⟨g, 0, none⟩)] w fun e w' => e = .returned .nilIface ∧ Added w w' g rb id 24 [if b then 255 else 0] := by
  have hmk : ∀ w, (Instr.makeSlice 24 (.int .i64 1) (.int .i64 1)).run Tryz.prog w = .ok (.slice (some ⟨w.heap.size, 0, none⟩) 1 1) (w.alloc (.cells #[.int .u8 0] 5)) := fun _ => by kernel_rfl
  have H := Lib.hid h
  clear h
  cases b
  · go_enter Tryz.func105, Tryz.ntmps105
    go_wp2_with fail
    refine (mAdd_f g rb id bs 24 (some ⟨w.heap.size + 1, 0, none⟩) 1 1 [0] w _ H.out ?_ (by omega) rfl (by omega) ?_ (at_new H.out (by omega))).mono ?_
    · exact below_then (below_alloc _ _) (below_alloc _ _)
    · exact rd_blk (fr := (0, 0)) (heap_at _ _ _ (by simp))
    rintro e w3 ⟨rfl, hA⟩
    have HA := Lib.hid hA
    clear hA
    go_wp2_with fail
    go_ret
    exact ⟨rfl, HA.out⟩
  · go_enter Tryz.func105, Tryz.ntmps105
    go_wp2_with fail
    refine (mAdd_f g rb id bs 24 (some ⟨w.heap.size + 1, 0, none⟩) 1 1 [255] w _ H.out ?_ (by omega) rfl (by omega) ?_ (at_new H.out (by omega))).mono ?_
    · exact below_then (below_alloc _ _) (below_alloc _ _)
    · exact rd_blk (fr := (0, 0)) (heap_at _ _ _ (by simp))
    rintro e w3 ⟨rfl, hA⟩
    have HA := Lib.hid hA
    clear hA
    go_wp2_with fail
    go_ret
    exact ⟨rfl, HA.out⟩

set_option maxHeartbeats 1000000 in
/-- '(time.Duration).Seconds' of whole seconds -/
theorem seconds_any (n : Nat) (hn : n < 2 ^ 32) (D : Int) (hD : D = (n : Int) * 1000000000) (w : World) :
    Calls Tryz.prog 97 #[.int .i64 D] w fun e w' => e = .returned (.float .f64 (fbits n)) ∧ w = w' := by
  have d0 : 0 ≤ D := by omega
  have d3 : D ≤ 4294967295000000000 := by omega
  have d1 : D / 1000000000 = (n : Int) := by omega
  have d2 : D % 1000000000 = 0 := by omega
  have f0 : floatOfInt .f64 0 = 0 := by decide +kernel
  have fN : floatOfInt .f64 (n : Int) = fbits n := by
    have h1 : decide ((n : Int) < 0) = false := decide_eq_false (by omega)
    unfold floatOfInt FloatKind.nearest fbits
    rw [h1, Int.natAbs_natCast]
    rfl
  have hquo := fun w => run_float_arith (P := Tryz.prog) w .quo 152 .f64 0 4741671816366391296 0 fdiv_zero
  have hadd := fun w => run_float_arith (P := Tryz.prog) w .add 152 .f64 (fbits n) 0 (fbits n) (fbits_add n hn)
  generalize fbits n = x at *
  clear hD hn
  go_enter Tryz.func97, Tryz.ntmps97
  go_wp2
  go_ret
  exact ⟨rfl, rfl⟩

set_option maxHeartbeats 1000000 in
theorem aLifetime_any (n : Nat) (hn : n < 2 ^ 32) (D : Int) (hD : D = (n : Int) * 1000000000) (g rb : Nat) (id bs : List Int) (w : World) (h : Fresh w g rb id bs) :
    Calls Tryz.prog 95 #[.agg #[.int .i64 D], .pointer (some ⟨g, 0, none⟩)] w fun e w' => e = .returned .nilIface ∧ Added w w' g rb id 13 [(n : Int) / 16777216, (n : Int) / 65536 % 256, (n : Int) / 256 % 256, (n : Int) % 256] := by
  have hmk : ∀ w, (Instr.makeSlice 24 (.int .i64 4) (.int .i64 4)).run Tryz.prog w = .ok (.slice (some ⟨w.heap.size, 0, none⟩) 4 4) (w.alloc (.cells #[.int .u8 0, .int .u8 0, .int .u8 0, .int .u8 0] 5)) := fun _ => by kernel_rfl
  have hcv := fun w => run_convert_float_int (P := Tryz.prog) w 152 23 .f64 .u32 (fbits n) (n : Int) (by rw [Tryz.underlying152]; rfl) Tryz.underlying23 (fbits_back n hn)
  have H := Lib.hid h
  have HD := Lib.hid hD
  have HN := Lib.hid hn
  have hN : (0 : Int) ≤ n ∧ (n : Int) ≤ 4294967295 := by omega
  clear h hD hn
  go_enter Tryz.func95, Tryz.ntmps95
  go_wp2_with (go_at_call 97; refine (seconds_any n HN.out D HD.out _).mono ?_; rintro e w' ⟨rfl, rfl⟩)
  refine (tput32_any (w.heap.size + 1) 0 4 4 n (.int .u8 0) (.int .u8 0) (.int .u8 0) (.int .u8 0) _ (by omega) hN (by go_simp) (by go_simp) (by go_simp) (by go_simp) (by go_simp) (by go_simp) (by go_simp) (by go_simp)).mono ?_
  rintro e w2 ⟨rfl, hw2⟩
  have hb2 : w2.heap[w.heap.size + 1]? = some (.cells (nums [(n : Int) / 16777216, (n : Int) / 65536 % 256, (n : Int) / 256 % 256, (n : Int) % 256]).toArray 5 (0, 0)) := by
    rw [hw2]; exact blk_set (blk_set (blk_set (blk_set (heap_at (w.alloc (.cells #[.int .i64 D] 67)) _ _ (by simp)) 0 _) 1 _) 2 _) 3 _
  have hB2 : Below w.heap.size w w2 := by rw [hw2]; exact ((((((Kept.refl [] w).alloc _).alloc _).setCell (.inr (Nat.le_succ _)) _).setCell (.inr (Nat.le_succ _)) _).setCell (.inr (Nat.le_succ _)) _ |>.setCell (.inr (Nat.le_succ _)) _).toBelow
  have HB := Lib.hid (And.intro hb2 hB2)
  clear hw2 hb2 hB2 hmk hcv
  go_wp2_with fail
  refine (mAdd_f g rb id bs 13 (some ⟨w.heap.size + 1, 0, none⟩) 4 4 [(n : Int) / 16777216, (n : Int) / 65536 % 256, (n : Int) / 256 % 256, (n : Int) % 256] w _ H.out HB.out.2 (by omega) rfl (by omega) (rd_blk HB.out.1) (at_new H.out (Nat.le_succ _))).mono ?_
  rintro e w3 ⟨rfl, hA⟩
  have HA := Lib.hid hA
  clear hA
  go_wp2_with fail
  go_ret
  exact ⟨rfl, HA.out⟩
end Go.Proofs.YthgghgejndncnaaGreat
