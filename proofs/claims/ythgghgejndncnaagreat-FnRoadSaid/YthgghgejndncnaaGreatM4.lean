/- a message's small methods: New, ReadValue, compat; beUint of a slice that reads as a list. -/
import Derived.Test.YthgghgejndncnaaGreatBlk
import Derived.Test.YthgghgejndncnaaGreatM2
import Derived.Maps.AppendAt
import Derived.Lib.AppendZeros
import Derived.Deep.RegionHeld
import Derived.Deep.Cut
import Derived.Deep.CutRange
import Derived.Deep.DeepCutAuto
namespace Go.Proofs.YthgghgejndncnaaGreat
open Go.RowKit
set_option linter.unusedSimpArgs false
set_option linter.unusedVariables false

theorem sbe16_rd (A : Option Addr) (n c : Nat) (x y : Int) (zs : List Int) (w : World) (hn : 2 ≤ n) (hx : 0 ≤ x ∧ x ≤ 255) (hy : 0 ≤ y ∧ y ≤ 255) (hR : Rd w A (x :: y :: zs)) :
    Calls Tryz.prog 51 #[.slice A n c] w fun e w' => e = .returned (.int .u16 (x * 256 + y)) ∧ ∃ k, w' = w.drewN k := by
  obtain ⟨b, o, rfl, hc⟩ := hR (by simp)
  exact sbe16_any b o n c x y w hn hx hy (hc 0 (by simp)) (hc 1 (by simp))
theorem sbe32_rd (A : Option Addr) (n c : Nat) (x0 x1 x2 x3 : Int) (zs : List Int) (w : World) (hn : 4 ≤ n) (r0 : 0 ≤ x0 ∧ x0 ≤ 255) (r1 : 0 ≤ x1 ∧ x1 ≤ 255) (r2 : 0 ≤ x2 ∧ x2 ≤ 255) (r3 : 0 ≤ x3 ∧ x3 ≤ 255) (hR : Rd w A (x0 :: x1 :: x2 :: x3 :: zs)) :
    Calls Tryz.prog 52 #[.slice A n c] w fun e w' => e = .returned (.int .u32 (x0 * 16777216 + x1 * 65536 + x2 * 256 + x3)) ∧ ∃ k, w' = w.drewN k := by
  obtain ⟨b, o, rfl, hc⟩ := hR (by simp)
  exact sbe32_any b o n c x0 x1 x2 x3 w hn r0 r1 r2 r3 (hc 0 (by simp)) (hc 1 (by simp)) (hc 2 (by simp)) (hc 3 (by simp))

theorem compat_any (t : Int) (w : World) (ht : t ≠ 32800) :
    Calls Tryz.prog 56 #[.int .u16 t] w fun e w' => e = .returned (.int .u16 t) ∧ w = w' := by
  have t0 : (t == 32800) = false := by rw [beq_eq_false_iff_ne]; exact ht
  go_enter Tryz.func56, Tryz.ntmps56
  go_wp2_with fail
  go_ret
  exact ⟨rfl, rfl⟩

set_option maxRecDepth 100000 in
theorem new_any (w : World) :
    Calls Tryz.prog 16 #[] w fun e w' => ∃ g r, e = .returned (.pointer (some ⟨g, 0, none⟩)) ∧ MsgBlk w' g 0 0 0 zeros12 (.slice none 0 0) (.slice (some ⟨r, 0, none⟩) 20 120) ∧
      w'.heap[r]? = some (.cells (nums (List.replicate 120 0)).toArray 5 (0, 0)) ∧ w.heap.size ≤ r ∧ r < g ∧ Below w.heap.size w w' := by
  have hmk : ∀ w, (Instr.makeSlice 24 (.int .i64 20) (.int .i64 120)).run Tryz.prog w = .ok (.slice (some ⟨w.heap.size, 0, none⟩) 20 120) (w.alloc (.cells (nums (List.replicate 120 0)).toArray 5)) := fun _ => by kernel_rfl
  generalize hz : (nums (List.replicate 120 0)).toArray = Z at hmk
  go_enter Tryz.func16, Tryz.ntmps16
  go_wp2_with fail
  go_ret
  refine ⟨_, w.heap.size, rfl, ⟨rfl, ?_⟩, blk_alloc (heap_alloc_new w _) _, Nat.le_refl _, by omega, below_then (below_alloc _ _) (below_alloc _ _)⟩
  exact heap_at (w.alloc (.cells Z 5)) _ (w.heap.size + 1) (by simp)

set_option maxHeartbeats 1000000 in
theorem readValue_any (g : Nat) (M C L : Int) (id : List Int) (a r : Value) (v : Int) (w : World) (h : MsgBlk w g M C L id a r) :
    Calls Tryz.prog 55 #[.pointer (some ⟨g, 0, none⟩), .int .u16 v] w fun e w' => e = .returned (.tuple #[]) ∧ ∃ x y, w' = (w.setCell ⟨g, 1, none⟩ (.int .u8 x)).setCell ⟨g, 0, none⟩ (.int .u16 y) := by
  have f := h.facts
  have c0 := f.1
  have c1 := f.2.1
  have f0 := h.free 0
  have f1 := h.free 1
  clear f h
  go_enter Tryz.func55, Tryz.ntmps55
  go_wp2_with fail
  go_end0
  exact ⟨rfl, _, _, rfl⟩
end Go.Proofs.YthgghgejndncnaaGreat

/- append of one RawAttribute. -/
namespace Go.Proofs.YthgghgejndncnaaGreat
open Go.RowKit
set_option linter.unusedSimpArgs false
set_option linter.unusedVariables false

theorem info_raw : (Tryz.prog.info? 105).map (fun i => (i.zero, i.size, i.bytes)) = some (some (.agg #[.int .u16 0, .int .u16 0, .slice none 0 0]), 3, 32) := by kernel_rfl

theorem step_app_raw {ops : Array Oper} {o : Oper} {a : Act} {K : Act → World → Prop} {Q : Exit → Act → World → Prop} {E : Prop} (dd : Nat) (hdd : o.dst = some dd) (base : Nat) (W : World) (hgd : o.guard = none) (s x : Operand)
    (ho : o.op = .call { callee := .builtin .append, args := #[s, x], argTypes := #[52, 52] })
    (v : Value) (n nb : Nat) (xs : List Value) (hs : a.eval s = v) (hx : a.eval x = .slice (some ⟨nb, 0, none⟩) 1 1) (q0 q1 q2 : Value)
    (HO : W.ownsRow base 105 3 v n xs) (h0 : W.cell? ⟨nb, 0, none⟩ = some q0) (h1 : W.cell? ⟨nb, 1, none⟩ = some q1) (h2 : W.cell? ⟨nb, 2, none⟩ = some q2)
    (g0 : q0.oneCell' = true) (g1 : q1.oneCell' = true) (g2 : q2.oneCell' = true) (hbase : base ≤ W.heap.size) (hl : n ≤ 1000)
    (h : ∀ v1 w1, w1.ownsRow base 105 3 v1 (n + 1) (xs ++ [q0, q1, q2]) → W.grownBy w1 v.ownBlock → K (a.put (some dd) v1) w1) :
    if Region.wanted o (yielded ops a.tmps) = true then Oper.wp Tryz.prog o a W K Q else E := by
  have hw : Region.wanted o (yielded ops a.tmps) = true := by simp [Region.wanted, hgd]
  rw [if_pos hw]
  obtain ⟨i0, hi, hz0, hz1, hz2⟩ := info_parts info_raw
  obtain ⟨v1, w1, hr, hown, hg, -, -⟩ := run_append_own_at (P := Tryz.prog) W base 52 o.type 105 i0 _ 3 32 Tryz.underlying52 hi hz0 hz1 hz2 rfl (by omega) v n xs HO ⟨nb, 0, none⟩ 1 1 [q0, q1, q2] (by simp)
    (by
      intro j u hu
      match j, hu with
      | 0, hu => simp at hu; subst hu; exact h0
      | 1, hu => simp at hu; subst hu; exact h1
      | 2, hu => simp at hu; subst hu; exact h2
      | (k + 3), hu => simp at hu)
    (by intro u hu; simp at hu; rcases hu with rfl | rfl | rfl <;> assumption) (by simp only [maxLen]; omega) (by omega) hbase
  rw [← hdd] at h
  unfold Oper.wp execOp
  simp only [ho, resolve, invoke, builtin, Sem.run_bind, Sem.run_pure, Result.andThen_ok, List.map_toArray, List.map_cons, List.map_nil, hs, hx, hr]
  exact h v1 w1 hown hg

/-- a row of one attribute of the call's own -/
theorem raw_cells {w : World} {base : Nat} {v : Value} {q0 q1 q2 : Value} (h : w.ownsRow base 105 3 v (0 + 1) ([] ++ [q0, q1, q2])) :
    ∃ ab cap, v = .slice (some ⟨ab, 0, none⟩) 1 cap ∧ 1 ≤ cap ∧ base ≤ ab ∧ ab < w.heap.size ∧ w.cell? ⟨ab, 0, none⟩ = some q0 ∧ w.cell? ⟨ab, 1, none⟩ = some q1 ∧ w.cell? ⟨ab, 2, none⟩ = some q2 := by
  rcases h.2 with ⟨_, h0⟩ | ⟨g, cap, cur, rfl, hb, _, h1, h2, _⟩
  · omega
  · have hc := h.cells (g := g) rfl
    refine ⟨g, cap, rfl, by omega, hb, (h.lt g rfl).2, ?_, ?_, ?_⟩
    · have := hc 0 q0 rfl; rwa [Addr.add_lit] at this
    · have := hc 1 q1 rfl; rwa [Addr.add_lit] at this
    · have := hc 2 q2 rfl; rwa [Addr.add_lit] at this
end Go.Proofs.YthgghgejndncnaaGreat

/- a message under construction: its bytes; 'append(m.Raw, make([]byte, n)...)'; '(*Message).grow'. -/
namespace Go.Proofs.YthgghgejndncnaaGreat
open Go.RowKit
set_option linter.unusedSimpArgs false
set_option linter.unusedVariables false

/-- append(x, make([]byte, n)...) where there is no room -/
theorem run_app_make {P : Program} (w : World) (t tn ty e : TypeId) (i : TypeInfo) (z : Value) (k kn : IntKind) (ht : P.underlying t = some (.slice e)) (htn : P.underlying tn = some (.int kn)) (hi : P.info? e = some i) (hz : i.zero = some z)
    (b : Addr) (sLen sCap : Nat) (olds : List Value) (hlo : olds.length = sLen * i.size) (holds : ∀ j v, olds[j]? = some v → w.cell? (b.add j) = some v)
    (n : Nat) (h0 : 0 < n) (hs : 0 < i.size) (hg : sCap < sLen + n) (h63 : ((sLen + n : Nat) : Int) ≤ 9223372036854775807) (hfit : Builtin.nextslicecap (sLen + n) sCap * i.bytes ≤ 281474976710656) (h48 : n * i.bytes ≤ 281474976710656) :
    (Builtin.append_ #[t, tn] ty #[.slice (some b) sLen sCap, .int k n]).run P w =
      .ok (.slice (some ⟨w.heap.size, 0, none⟩) (sLen + n) (grownCap w (sLen + n) sCap e)) (w.drew.alloc (.cells (olds.toArray ++ Builtin.zeroCells z.cells n ++ Builtin.zeroCells z.cells (grownCap w (sLen + n) sCap e - (sLen + n))) e)) := by
  have hn : ¬ (sLen + n ≤ sCap) := by omega
  have hw : IntKind.i64.wrap (n : Int) = n := by rw [IntKind.wrap_i64]; omega
  have h63' : ¬ (9223372036854775807 < ((sLen : Int) + (n : Int))) := by omega
  have h48' : ¬ (281474976710656 < Builtin.nextslicecap (sLen + n) sCap * i.bytes) := by omega
  have h48i : ¬ (281474976710656 < (n : Int) * (i.bytes : Int)) := by
    rw [← Int.natCast_mul]
    omega
  have hneg : ¬ ((n : Int) < 0) := by omega
  have hns : ¬ (n * i.size = 0) := Nat.mul_ne_zero (by omega) (by omega)
  have hfo := run_firstCells_some (P := P) w.drew i.size sLen b sLen sCap olds hlo (by simpa using holds)
  simp [Builtin.append_, run_underlying ht, run_underlying htn, sizeOf, typeInfo, zeroValue, hi, hz, asInt, asIntOf, hw, hn, hneg, hns, h63', h48', h48i, Question.forced, hfo, Go.newRow, grownCap]

/-- a message under construction: n bytes of the row 'bs' -/
def RawMsg (w : World) (g rb : Nat) (L : Int) (id : List Int) (at_ : Value) (n : Nat) (bs : List Int) : Prop :=
  MsgBlk w g 0 0 L id at_ (.slice (some ⟨rb, 0, none⟩) n bs.length) ∧ w.heap[rb]? = some (.cells (nums bs).toArray 5 (0, 0)) ∧ n ≤ bs.length ∧ rb ≠ g

theorem nums_set (bs : List Int) (i : Nat) (x : Int) : (nums bs).toArray.setIfInBounds i (.int .u8 x) = (nums (bs.set i x)).toArray := by
  simp [nums, List.map_set]

set_option maxHeartbeats 1000000 in
theorem mgrow_no (g rb : Nat) (L : Int) (id : List Int) (at_ : Value) (n n' : Nat) (bs : List Int) (w : World) (h : RawMsg w g rb L id at_ n bs) (hn : n' ≤ n) :
    Calls Tryz.prog 27 #[.pointer (some ⟨g, 0, none⟩), .int .i64 n'] w fun e w' => e = .returned (.tuple #[]) ∧ w' = w := by
  have c16 := h.1.facts.2.2.2.2.1
  have t0 : decide ((n' : Int) ≤ n) = true := decide_eq_true (by omega)
  clear h
  go_enter Tryz.func27, Tryz.ntmps27
  go_wp2_with fail
  refine bodyPost_ret (v := .tuple #[]) (by simp [results, Tryz.results27, go_sem]) rfl ?_
  exact ⟨rfl, rfl⟩

set_option maxHeartbeats 1000000 in
theorem mgrow_room (g rb : Nat) (L : Int) (id : List Int) (at_ : Value) (n n' : Nat) (bs : List Int) (w : World) (h : RawMsg w g rb L id at_ n bs) (hn : n < n') (hc : n' ≤ bs.length) :
    Calls Tryz.prog 27 #[.pointer (some ⟨g, 0, none⟩), .int .i64 n'] w fun e w' => e = .returned (.tuple #[]) ∧ RawMsg w' g rb L id at_ n' bs ∧ Kept [g] w w' := by
  have c16 := h.1.facts.2.2.2.2.1
  have f16 := h.1.free 16
  have t0 : decide ((n' : Int) ≤ n) = false := decide_eq_false (by omega)
  have t1 : decide ((n' : Int) ≤ bs.length) = true := decide_eq_true (by omega)
  have t2 : (n' : Int) ≤ bs.length := by omega
  have H := Lib.hid h
  clear h
  go_enter Tryz.func27, Tryz.ntmps27
  go_wp2_with fail
  refine bodyPost_ret (v := .tuple #[]) (by simp [results, Tryz.results27, go_sem]) rfl ?_
  exact ⟨rfl, ⟨H.out.1.set16 _, blk_far H.out.2.1 H.out.2.2.2 _, hc, H.out.2.2.2⟩, (Kept.refl _ _).setCell (.inl (by simp)) _⟩
end Go.Proofs.YthgghgejndncnaaGreat

/- '(*Message).grow' where there is no room. -/
namespace Go.Proofs.YthgghgejndncnaaGreat
open Go.RowKit
set_option linter.unusedSimpArgs false
set_option linter.unusedVariables false

theorem zeroCells_u8 (k : Nat) : Builtin.zeroCells (Value.int .u8 0).cells k = (nums (List.replicate k 0)).toArray := by
  apply Array.ext'
  simp [Builtin.zeroCells, nums, Value.cells, Nat.mod_one]
  rw [List.eq_replicate_iff]
  simp

/-- the same, the new row as bytes -/
theorem run_app_make_u8 (w : World) (rb n n' : Nat) (bs : List Int) (hb : w.heap[rb]? = some (.cells (nums bs).toArray 5 (0, 0))) (hn : n < n') (hnb : n ≤ bs.length) (hc : bs.length < n') (hsm : n' ≤ 100000) :
    ∃ bs' : List Int, ((Builtin.append_ #[24, 3] 24 #[.slice (some ⟨rb, 0, none⟩) n bs.length, .int .i64 ((n' - n : Nat) : Int)]).run Tryz.prog w.drew =
      .ok (.slice (some ⟨w.heap.size, 0, none⟩) n' bs'.length) (w.drew.drew.alloc (.cells (nums bs').toArray 5))) ∧ bs'.take n = bs.take n ∧ n' ≤ bs'.length := by
  obtain ⟨i0, hi, hz0, hz1, hz2⟩ := info_parts info_u8
  have hge := grownCap_ge w.drew n' bs.length 5
  have hfit : Builtin.nextslicecap n' bs.length * i0.bytes ≤ 281474976710656 := growslice_fits hc (by rw [hz2]; omega)
  have hlen : (bs.take n).length = n := by rw [List.length_take]; omega
  have hap := run_app_make (P := Tryz.prog) w.drew 24 3 24 5 i0 (.int .u8 0) .i64 .i64 Tryz.underlying24 Tryz.underlying3 hi hz0 ⟨rb, 0, none⟩ n bs.length (nums (bs.take n)) (by rw [nums_length, hlen, hz1, Nat.mul_one]) (by
      intro j v hv
      have hj : j < (bs.take n).length := by have := (List.getElem?_eq_some_iff.1 hv).1; rwa [nums_length] at this
      have hcell : w.cell? ⟨rb, j, none⟩ = (nums bs)[j]? := by rw [blk_cell hb, List.getElem?_toArray]
      rw [Addr.add_lit, Nat.zero_add]
      show w.cell? ⟨rb, j, none⟩ = some v
      rw [hcell, ← hv, nums, nums, List.map_take, List.getElem?_take, if_pos (by omega)])
    (n' - n) (by omega) (by omega) (by omega) (by omega) (by rw [show n + (n' - n) = n' by omega]; exact hfit) (by rw [hz2]; omega)
  rw [show n + (n' - n) = n' by omega] at hap
  refine ⟨bs.take n ++ List.replicate (n' - n) 0 ++ List.replicate (grownCap w.drew n' bs.length 5 - n') 0, ?_, ?_, ?_⟩
  · rw [hap]
    have e1 : (bs.take n ++ List.replicate (n' - n) 0 ++ List.replicate (grownCap w.drew n' bs.length 5 - n') 0).length = grownCap w.drew n' bs.length 5 := by
      simp only [List.length_append, hlen, List.length_replicate]; omega
    have e2 : (nums (bs.take n)).toArray ++ Builtin.zeroCells (Value.int .u8 0).cells (n' - n) ++ Builtin.zeroCells (Value.int .u8 0).cells (grownCap w.drew n' bs.length 5 - n') = (nums (bs.take n ++ List.replicate (n' - n) 0 ++ List.replicate (grownCap w.drew n' bs.length 5 - n') 0)).toArray := by
      rw [zeroCells_u8, zeroCells_u8]
      apply Array.ext'
      simp only [Array.toList_append, nums_append]
    rw [e1, e2]
    rfl
  · rw [List.append_assoc, List.take_append_of_le_length (by rw [hlen]; exact Nat.le_refl _), List.take_of_length_le (by rw [hlen]; exact Nat.le_refl _)]
  · simp only [List.length_append, hlen, List.length_replicate]; omega

set_option maxRecDepth 100000 in
set_option maxHeartbeats 2000000 in
theorem mgrow_grow (g rb : Nat) (L : Int) (id : List Int) (at_ : Value) (n n' : Nat) (bs : List Int) (w : World) (h : RawMsg w g rb L id at_ n bs) (hn : n < n') (hc : bs.length < n') (hsm : n' ≤ 100000) :
    Calls Tryz.prog 27 #[.pointer (some ⟨g, 0, none⟩), .int .i64 n'] w fun e w' => e = .returned (.tuple #[]) ∧ ∃ rb' bs', RawMsg w' g rb' L id at_ n' bs' ∧ bs'.take n = bs.take n ∧ w.heap.size ≤ rb' ∧ Kept [g] w w' := by
  have c16 := h.1.facts.2.2.2.2.1
  have f16 := h.1.free 16
  have t0 : decide ((n' : Int) ≤ n) = false := decide_eq_false (by omega)
  have t1 : decide ((n' : Int) ≤ bs.length) = false := decide_eq_false (by omega)
  have hsub : IntKind.i64.wrap ((n' : Int) - n) = ((n' - n : Nat) : Int) := by rw [IntKind.wrap_i64]; omega
  obtain ⟨bs', hap⟩ := run_app_make_u8 w rb n n' bs h.2.1 hn h.2.2.1 hc hsm
  have H := Lib.hid h
  have HAP := Lib.hid hap
  clear h hap
  go_enter Tryz.func27, Tryz.ntmps27
  go_upto_region 3 with fail
  refine wp_region_held_drew (S := fun w' => True) (by kernel_rfl) trivial (fun hHeld => ?_)
  refine wpAnyH_take (i := 0) (v := ?_) rfl (by kernel_rfl) (by kernel_rfl) (by kernel_rfl) (fun _ _ _ h => h) (Or.inl ⟨by rfl, ?_⟩) hHeld ?_
  rotate_left
  · (intro w' hSw; (try dsimp only at hSw); go_simp <;> with_reducible rfl)
  simp only [List.getElem_toArray, List.getElem_cons_succ, List.getElem_cons_zero, Act.put, List.setIfInBounds_toArray, List.set_cons_zero, List.set_cons_succ]
  refine wpAnyH_take (i := 1) (v := ?_) rfl (by kernel_rfl) (by kernel_rfl) (by kernel_rfl) (fun _ _ _ h => h) (Or.inl ⟨by rfl, ?_⟩) hHeld ?_
  rotate_left
  · (intro w' hSw; (try dsimp only at hSw); go_simp <;> with_reducible rfl)
  simp only [List.getElem_toArray, List.getElem_cons_succ, List.getElem_cons_zero, Act.put, List.setIfInBounds_toArray, List.set_cons_zero, List.set_cons_succ]
  refine wpAnyH_take (i := 2) (v := ?_) rfl (by kernel_rfl) (by kernel_rfl) (by kernel_rfl) (fun _ _ _ h => h) (Or.inl ⟨by rfl, ?_⟩) hHeld ?_
  rotate_left
  · (intro w' hSw; (try dsimp only at hSw); go_simp <;> with_reducible rfl)
  simp only [List.getElem_toArray, List.getElem_cons_succ, List.getElem_cons_zero, Act.put, List.setIfInBounds_toArray, List.set_cons_zero, List.set_cons_succ]
  refine wpAnyH_take (i := 3) (v := ?_) rfl (by kernel_rfl) (by kernel_rfl) (by kernel_rfl) (fun _ _ _ h => h) (Or.inl ⟨by rfl, ?_⟩) hHeld ?_
  rotate_left
  · (intro w' hSw; (try dsimp only at hSw); go_simp <;> with_reducible rfl)
  simp only [List.getElem_toArray, List.getElem_cons_succ, List.getElem_cons_zero, Act.put, List.setIfInBounds_toArray, List.set_cons_zero, List.set_cons_succ]
  refine wpAnyH_take (i := 5) (v := ?_) rfl (by kernel_rfl) (by kernel_rfl) (by kernel_rfl) (fun _ _ _ h => h) (Or.inl ⟨by rfl, ?_⟩) hHeld ?_
  rotate_left
  · (intro w' hSw; (try dsimp only at hSw); go_simp <;> with_reducible rfl)
  simp only [List.getElem_toArray, List.getElem_cons_succ, List.getElem_cons_zero, Act.put, List.setIfInBounds_toArray, List.set_cons_zero, List.set_cons_succ]
  refine wpAnyH_take (i := 6) (v := ?_) rfl (by kernel_rfl) (by kernel_rfl) (by kernel_rfl) (fun _ _ _ h => h) (Or.inl ⟨by rfl, ?_⟩) hHeld ?_
  rotate_left
  · (intro w' hSw; (try dsimp only at hSw); go_simp <;> with_reducible rfl)
  simp only [List.getElem_toArray, List.getElem_cons_succ, List.getElem_cons_zero, Act.put, List.setIfInBounds_toArray, List.set_cons_zero, List.set_cons_succ]
  refine wpAnyH_take (i := 7) (v := ?_) rfl (by kernel_rfl) (by kernel_rfl) (by kernel_rfl) (fun _ _ _ h => h) (Or.inl ⟨by rfl, ?_⟩) hHeld ?_
  rotate_left
  · (intro w' hSw; (try dsimp only at hSw); go_simp <;> with_reducible rfl)
  simp only [List.getElem_toArray, List.getElem_cons_succ, List.getElem_cons_zero, Act.put, List.setIfInBounds_toArray, List.set_cons_zero, List.set_cons_succ]
  refine wpAnyH_take (i := 8) (v := ?_) rfl (by kernel_rfl) (by kernel_rfl) (by kernel_rfl) (fun _ _ _ h => h) (Or.inl ⟨by rfl, ?_⟩) hHeld ?_
  rotate_left
  · (intro w' hSw; (try dsimp only at hSw); go_simp <;> with_reducible rfl)
  simp only [List.getElem_toArray, List.getElem_cons_succ, List.getElem_cons_zero, Act.put, List.setIfInBounds_toArray, List.set_cons_zero, List.set_cons_succ]
  refine wpAnyH_ready (rs := [4, 9]) (by kernel_rfl) (by simp) ?_
  refine AllReadyH.cons rfl (fun K hK => ?_) (AllReadyH.cons rfl (fun K hK => ?_) AllReadyH.nil)
  · go_simp
    refine hK.out _ _ trivial (fun hHeld => ?_)
    clear hK K
    refine wpAnyH_ready (rs := [9]) (by kernel_rfl) (by simp) ?_
    refine AllReadyH.cons rfl (fun K hK => ?_) AllReadyH.nil
    go_simp
    refine hK.out _ _ trivial (fun hHeld => ?_)
    clear hK K
    refine wpAnyH_take (i := 10) (v := ?_) rfl (by kernel_rfl) (by kernel_rfl) (by kernel_rfl) (fun _ _ _ h => h) (Or.inl ⟨by rfl, ?_⟩) hHeld ?_
    rotate_left
    · (intro w' hSw; (try dsimp only at hSw); go_simp <;> with_reducible rfl)
    simp only [List.getElem_toArray, List.getElem_cons_succ, List.getElem_cons_zero, Act.put, List.setIfInBounds_toArray, List.set_cons_zero, List.set_cons_succ]
    refine wpAnyH_take (i := 11) (v := ?_) rfl (by kernel_rfl) (by kernel_rfl) (by kernel_rfl) (fun _ _ _ h => h) (Or.inl ⟨by rfl, ?_⟩) hHeld ?_
    rotate_left
    · (intro w' hSw; (try dsimp only at hSw); go_simp <;> with_reducible rfl)
    simp only [List.getElem_toArray, List.getElem_cons_succ, List.getElem_cons_zero, Act.put, List.setIfInBounds_toArray, List.set_cons_zero, List.set_cons_succ]
    refine wpAnyH_ready (rs := [12]) (by kernel_rfl) (by simp) ?_
    refine AllReadyH.cons rfl (fun K hK => ?_) AllReadyH.nil
    rw [if_pos (by rfl)]
    refine Go.Lib.wp_append_run _ (.tmp 31) (.tmp 38) 24 3 rfl _ _ rfl rfl _ _ HAP.out.1 ?_
    simp only [Act.put, List.getElem_toArray, List.getElem_cons_succ, List.getElem_cons_zero, List.setIfInBounds_toArray, List.set_cons_zero, List.set_cons_succ]
    obtain ⟨W, hW⟩ : ∃ W, W = w.drew.drew.alloc (.cells (nums bs').toArray 5) := ⟨_, rfl⟩
    have hk : Kept [] w W := by rw [hW]; exact ((Kept.refl _ _).drew.drew).alloc _
    have hg := H.out.1.kept hk (by simp)
    have hb : W.heap[w.heap.size]? = some (.cells (nums bs').toArray 5 (0, 0)) := by rw [hW]; exact heap_at _ _ _ rfl
    have c16 := hg.facts.2.2.2.2.1
    have f16 := hg.free 16
    have HF := Lib.hid (And.intro hg (And.intro hb hk))
    rw [← hW]
    clear hW hg hb hk
    refine hK.out _ _ trivial (fun hHeld => ?_)
    clear hK K
    refine wpAnyH_take (i := 13) (v := ?_) rfl (by kernel_rfl) (by kernel_rfl) (by kernel_rfl) (fun _ _ _ h => h) (Or.inl ⟨by rfl, ?_⟩) hHeld ?_
    rotate_left
    · (intro w' hSw; (try dsimp only at hSw); go_simp <;> with_reducible rfl)
    simp only [List.getElem_toArray, List.getElem_cons_succ, List.getElem_cons_zero, Act.put, List.setIfInBounds_toArray, List.set_cons_zero, List.set_cons_succ]
    refine wpAnyH_take (i := 14) (v := ?_) rfl (by kernel_rfl) (by kernel_rfl) (by kernel_rfl) (fun _ _ _ h => h) (Or.inl ⟨by rfl, ?_⟩) hHeld ?_
    rotate_left
    · (intro w' hSw; (try dsimp only at hSw); go_simp <;> with_reducible rfl)
    simp only [List.getElem_toArray, List.getElem_cons_succ, List.getElem_cons_zero, Act.put, List.setIfInBounds_toArray, List.set_cons_zero, List.set_cons_succ]
    refine wpAnyH_ready (rs := [15]) (by kernel_rfl) (by simp) ?_
    refine AllReadyH.cons rfl (fun K hK => ?_) AllReadyH.nil
    go_simp
    refine hK.out _ _ trivial (fun hHeld => ?_)
    clear hK K
    refine wpAnyH_done (by kernel_rfl) ?_ _
    clear c16 f16
    go_wp2_with fail
    go_end0
    have hne : w.heap.size ≠ g := by have := H.out.1.lt; omega
    exact ⟨rfl, w.heap.size, bs', ⟨HF.out.1.set16 _, blk_far HF.out.2.1 hne _, HAP.out.2.2, hne⟩, HAP.out.2.1, Nat.le_refl _, (HF.out.2.2.mono (by simp)).setCell (.inl (by simp)) _⟩
  · go_simp
    refine hK.out _ _ trivial (fun hHeld => ?_)
    clear hK K
    refine wpAnyH_take (i := 10) (v := ?_) rfl (by kernel_rfl) (by kernel_rfl) (by kernel_rfl) (fun _ _ _ h => h) (Or.inl ⟨by rfl, ?_⟩) hHeld ?_
    rotate_left
    · (intro w' hSw; (try dsimp only at hSw); go_simp <;> with_reducible rfl)
    simp only [List.getElem_toArray, List.getElem_cons_succ, List.getElem_cons_zero, Act.put, List.setIfInBounds_toArray, List.set_cons_zero, List.set_cons_succ]
    refine wpAnyH_take (i := 11) (v := ?_) rfl (by kernel_rfl) (by kernel_rfl) (by kernel_rfl) (fun _ _ _ h => h) (Or.inl ⟨by rfl, ?_⟩) hHeld ?_
    rotate_left
    · (intro w' hSw; (try dsimp only at hSw); go_simp <;> with_reducible rfl)
    simp only [List.getElem_toArray, List.getElem_cons_succ, List.getElem_cons_zero, Act.put, List.setIfInBounds_toArray, List.set_cons_zero, List.set_cons_succ]
    refine wpAnyH_ready (rs := [4]) (by kernel_rfl) (by simp) ?_
    refine AllReadyH.cons rfl (fun K hK => ?_) AllReadyH.nil
    go_simp
    refine hK.out _ _ trivial (fun hHeld => ?_)
    clear hK K
    refine wpAnyH_ready (rs := [12]) (by kernel_rfl) (by simp) ?_
    refine AllReadyH.cons rfl (fun K hK => ?_) AllReadyH.nil
    rw [if_pos (by rfl)]
    refine Go.Lib.wp_append_run _ (.tmp 31) (.tmp 38) 24 3 rfl _ _ rfl rfl _ _ HAP.out.1 ?_
    simp only [Act.put, List.getElem_toArray, List.getElem_cons_succ, List.getElem_cons_zero, List.setIfInBounds_toArray, List.set_cons_zero, List.set_cons_succ]
    obtain ⟨W, hW⟩ : ∃ W, W = w.drew.drew.alloc (.cells (nums bs').toArray 5) := ⟨_, rfl⟩
    have hk : Kept [] w W := by rw [hW]; exact ((Kept.refl _ _).drew.drew).alloc _
    have hg := H.out.1.kept hk (by simp)
    have hb : W.heap[w.heap.size]? = some (.cells (nums bs').toArray 5 (0, 0)) := by rw [hW]; exact heap_at _ _ _ rfl
    have c16 := hg.facts.2.2.2.2.1
    have f16 := hg.free 16
    have HF := Lib.hid (And.intro hg (And.intro hb hk))
    rw [← hW]
    clear hW hg hb hk
    refine hK.out _ _ trivial (fun hHeld => ?_)
    clear hK K
    refine wpAnyH_take (i := 13) (v := ?_) rfl (by kernel_rfl) (by kernel_rfl) (by kernel_rfl) (fun _ _ _ h => h) (Or.inl ⟨by rfl, ?_⟩) hHeld ?_
    rotate_left
    · (intro w' hSw; (try dsimp only at hSw); go_simp <;> with_reducible rfl)
    simp only [List.getElem_toArray, List.getElem_cons_succ, List.getElem_cons_zero, Act.put, List.setIfInBounds_toArray, List.set_cons_zero, List.set_cons_succ]
    refine wpAnyH_take (i := 14) (v := ?_) rfl (by kernel_rfl) (by kernel_rfl) (by kernel_rfl) (fun _ _ _ h => h) (Or.inl ⟨by rfl, ?_⟩) hHeld ?_
    rotate_left
    · (intro w' hSw; (try dsimp only at hSw); go_simp <;> with_reducible rfl)
    simp only [List.getElem_toArray, List.getElem_cons_succ, List.getElem_cons_zero, Act.put, List.setIfInBounds_toArray, List.set_cons_zero, List.set_cons_succ]
    refine wpAnyH_ready (rs := [15]) (by kernel_rfl) (by simp) ?_
    refine AllReadyH.cons rfl (fun K hK => ?_) AllReadyH.nil
    go_simp
    refine hK.out _ _ trivial (fun hHeld => ?_)
    clear hK K
    refine wpAnyH_done (by kernel_rfl) ?_ _
    clear c16 f16
    go_wp2_with fail
    go_end0
    have hne : w.heap.size ≠ g := by have := H.out.1.lt; omega
    exact ⟨rfl, w.heap.size, bs', ⟨HF.out.1.set16 _, blk_far HF.out.2.1 hne _, HAP.out.2.2, hne⟩, HAP.out.2.1, Nat.le_refl _, (HF.out.2.2.mono (by simp)).setCell (.inl (by simp)) _⟩
end Go.Proofs.YthgghgejndncnaaGreat
