/- 'impl.Get$1', 'impl.Get': what reads the attribute is left open. -/
import Derived.Test.YthgghgejndncnaaGreatGot
import Derived.Test.YthgghgejndncnaaGreatM10
namespace Go.Proofs.YthgghgejndncnaaGreat
open Go.RowKit
set_option linter.unusedSimpArgs false
set_option linter.unusedVariables false

theorem enterGet1 (args : Array Value) (w : World) : (callFunc 19 args).run Tryz.prog w = .ok (.enter 19 args) w :=
  enters Tryz.func19 (by kernel_rfl) rfl args w

/-- bytes that are a message with one attribute -/
structure IsMsg (raw : List Int) (t : Int) (v id : List Int) : Prop where
  eq : ∃ m0 m1, raw = msgH m0 m1 t id v ∧ (0 ≤ m0 ∧ m0 ≤ 255) ∧ (0 ≤ m1 ∧ m1 ≤ 255)
  idl : id.length = 12
  len : v.length ≤ 1000
  typ : (0 ≤ t ∧ t ≤ 255) ∧ t ≠ 8 ∧ t ≠ 28

theorem IsMsg.length {raw : List Int} {t : Int} {v id : List Int} (h : IsMsg raw t v id) : raw.length = 24 + pad4 v.length := by
  obtain ⟨m0, m1, rfl, -, -⟩ := h.eq
  have : pad4 (4 + v.length) = 4 + pad4 v.length := by unfold pad4; omega
  simp [msgH, put2, attrB_length, h.idl, this]
  omega

set_option maxRecDepth 100000 in
set_option maxHeartbeats 2000000 in
theorem get1_msg (p0 p1 p2 n c : Nat) (k : Int) (A : Option Addr) (raw : List Int) (t : Int) (v id : List Int) (w : World) (hn : raw.length = n) (hnc : n ≤ c) (hR : Rd w A raw) (hm : IsMsg raw t v id)
    (h0 : w.cell? ⟨p0, 0, none⟩ = some (.slice A n c)) (h1 : w.cell? ⟨p1, 0, none⟩ = some (.int .i64 k)) (h2 : w.heap[p2]? = some (.cells #[.int .u32 0, .slice none 0 0, .int .i64 0, .slice none 0 0] 26 (0, 0)))
    (b : Bool) (Q : Value → World → Prop) (hgot : ∀ (g : Nat) (w1 : World), MsgHas w1 g t v id → Calls Tryz.prog 21 #[.int .i64 k, .pointer (some ⟨g, 0, none⟩)] w1 fun e w' => ∃ N' aA an ac P' dA dn dc, e = .returned (.tuple #[atV N' aA an ac P' dA dn dc, .bool b]) ∧ Q (atV N' aA an ac P' dA dn dc) w' ∧ Below w1.heap.size w1 w') :
    Calls Tryz.prog 19 #[.pointer (some ⟨p0, 0, none⟩), .pointer (some ⟨p1, 0, none⟩), .pointer (some ⟨p2, 0, none⟩)] w fun e w' => e = .returned (.bool b) ∧ Kept [p2] w w' ∧
      ∃ N' aA an ac P' dA dn dc w1, w'.heap[p2]? = some (.cells #[.int .u32 N', .slice aA an ac, .int .i64 P', .slice dA dn dc] 26 (0, 0)) ∧ Q (atV N' aA an ac P' dA dn dc) w1 ∧ Kept [p2] w1 w' ∧ w1.heap[p2]? = some (.cells #[.int .u32 0, .slice none 0 0, .int .i64 0, .slice none 0 0] 26 (0, 0)) := by
  have HN := Lib.hid hn
  have HR := Lib.hid hR
  have HM := Lib.hid hm
  have H2 := Lib.hid h2
  have H0 := Lib.hid h0
  have H1 := Lib.hid h1
  have HG := Lib.hid hgot
  have hbd : n ≤ 5000 := by have := hm.length; have := hm.len; have : pad4 v.length ≤ v.length + 3 := by unfold pad4; omega
                            omega
  clear hn hR hm h2 h0 h1 hgot
  go_enter Tryz.func19, Tryz.ntmps19
  go_wp2_with fail
  refine (new_any _).mono ?_
  rintro e w1 ⟨g, r, rfl, hg1, hr1, hr2, hr3, hB1⟩
  have HG1 := Lib.hid hg1
  have HR1 := Lib.hid hr1
  have HB1 := Lib.hid hB1
  have h0' : w1.cell? ⟨p0, 0, none⟩ = some (.slice A n c) := (Kept.of_below (S := []) hB1).cell H0.out (by simp)
  have h1' : w1.cell? ⟨p1, 0, none⟩ = some (.int .i64 k) := (Kept.of_below (S := []) hB1).cell H1.out (by simp)
  clear hg1 hr1 hB1
  go_wp2_with fail
  refine (cloneB_any A n c raw _ HN.out (by omega) ?_).mono ?_
  · exact HR.out.below HB1.out
  rintro e w2 ⟨v2, rfl, hown2, hB2⟩
  obtain ⟨-, A2, c2, rfl, hc2, hcm2, hR2⟩ := own_rd hown2
  have hg2 := HG1.out.below hB2
  have hr2' := blk_below HR1.out hB2
  have HG2 := Lib.hid (And.intro hg2 (And.intro hr2' hR2))
  have HB2 := Lib.hid (below_then HB1.out hB2)
  have h1'' : w2.cell? ⟨p1, 0, none⟩ = some (.int .i64 k) := (Kept.of_below (S := []) hB2).cell h1' (by simp)
  clear h0' h1' hown2 hB2 hg2 hr2' hR2
  go_wp2_with fail
  obtain ⟨m0, m1, hraw, hm0, hm1⟩ := HM.out.eq
  have hlen := HM.out.length
  refine (sDecode_any g r n c2 v.length (nums (List.replicate 120 0)).toArray A2 m0 m1 t id v zeros12 _ HG2.out.1 HG2.out.2.1 (by simp [nums]) (by omega) HM.out.idl rfl HM.out.len HM.out.typ.1 HM.out.typ.2.1 HM.out.typ.2.2 hm0 hm1 (by rw [← HN.out]; exact hlen) hc2 (hraw ▸ HG2.out.2.2)).mono ?_
  rintro e w3 ⟨rfl, hmsg, hk3⟩
  have hgs := HG2.out.1.lt
  have hKw : Kept [] w w3 := (Kept.of_below (S := []) HB2.out).trans hk3 (fun t ht => by simp at ht; rcases ht with rfl | rfl <;> first | exact .inr (by omega))
  have HK3 := Lib.hid hKw
  have HMS := Lib.hid hmsg
  have hk1 : w3.cell? ⟨p1, 0, none⟩ = some (.int .i64 k) := hKw.cell H1.out (by simp)
  clear hlen hraw hmsg hk3 hKw h1''
  go_wp2_with fail
  refine (HG.out g _ HMS.out).mono ?_
  rintro e w4 ⟨N', aA, an, ac, P', dA, dn, dc, rfl, hQ, hB4⟩
  have hp2 : w4.heap[p2]? = some (.cells #[.int .u32 0, .slice none 0 0, .int .i64 0, .slice none 0 0] 26 (0, 0)) := blk_below (blk_kept H2.out HK3.out (by simp)) hB4
  have hp2l := blk_lt H2.out
  have hk4 : Kept [] w w4 := HK3.out.then_below (hB4.mono HK3.out.size)
  have hp2n : ¬ w4.heap.size = p2 := by have := hk4.size; omega
  have hp2n' : ¬ p2 = w4.heap.size := by omega
  have HP2 := Lib.hid hp2
  have HQ := Lib.hid hQ
  have HK4 := Lib.hid hk4
  clear hk1 hQ hB4 hp2 hk4
  go_upto_region 5 with fail
  obtain ⟨W5, hW5⟩ : ∃ W5, W5 = w4.alloc (.cells #[.int .u32 N', .slice aA an ac, .int .i64 P', .slice dA dn dc] 26) := ⟨_, rfl⟩
  have hq5 : W5.heap[w4.heap.size]? = some (.cells #[.int .u32 N', .slice aA an ac, .int .i64 P', .slice dA dn dc] 26 (0, 0)) := by rw [hW5]; exact heap_alloc_new _ _
  have hp5 : W5.heap[p2]? = some (.cells #[.int .u32 0, .slice none 0 0, .int .i64 0, .slice none 0 0] 26 (0, 0)) := by rw [hW5]; exact blk_alloc HP2.out _
  have hk5 : Kept [] w W5 := by rw [hW5]; exact HK4.out.alloc _
  have hk45 : Kept [p2] w4 W5 := by rw [hW5]; exact (Kept.refl _ _).alloc _
  rw [← hW5]
  obtain ⟨q0, q1, q2, q3⟩ := cells4 hp5
  obtain ⟨j0, j1, j2, j3⟩ := cells4 hq5
  have z0 := blk_free hp5 0
  have z1 := blk_free hp5 1
  have z2 := blk_free hp5 2
  have z3 := blk_free hp5 3
  have hb := blk_set (blk_set (blk_set (blk_set hp5 0 (.int .u32 N')) 1 (.slice aA an ac)) 2 (.int .i64 P')) 3 (.slice dA dn dc)
  have HF := Lib.hid (And.intro hb (And.intro hk5 hk45))
  clear hW5 hq5 hp5 hb hk5 hk45
  go_wp2_with fail
  go_ret
  refine ⟨rfl, ?_, N', aA, an, ac, P', dA, dn, dc, w4, HF.out.1, HQ.out, ?_, HP2.out⟩
  · exact ((((HF.out.2.1.mono (T := [p2]) (by simp)).setCell (.inl (by simp)) _).setCell (.inl (by simp)) _).setCell (.inl (by simp)) _).setCell (.inl (by simp)) _
  · exact (((HF.out.2.2.setCell (.inl (by simp)) _).setCell (.inl (by simp)) _).setCell (.inl (by simp)) _).setCell (.inl (by simp)) _

/-- a block in which no byte lies is no matter to bytes -/
theorem rd_keep {w w' : World} {g : Nat} {A : Option Addr} {xs : List Int} (h : Rd w A xs) (hg : ∀ o x, w.cell? ⟨g, o, none⟩ ≠ some (.int .u8 x)) (k : Kept [g] w w') : Rd w' A xs := by
  by_cases hx : xs = []
  · rw [hx]; exact Rd.nil _ _
  · obtain ⟨b, o, rfl, hc⟩ := h hx
    have h0 := hc 0 (by cases xs with | nil => exact absurd rfl hx | cons a l => simp)
    refine Rd.kept (fun _ => ⟨b, o, rfl, hc⟩) k (fun a e => ?_)
    injection e with e
    subst e
    intro hb
    have hb' : b = g := by simpa using hb
    subst hb'
    exact hg _ _ h0
theorem no_u8_attr {w : World} {g : Nat} {N P : Int} {a b : Option Addr} {n c m d : Nat} {t : TypeId} (h : w.heap[g]? = some (.cells #[.int .u32 N, .slice a n c, .int .i64 P, .slice b m d] t (0, 0))) : ∀ o x, w.cell? ⟨g, o, none⟩ ≠ some (.int .u8 x) := by
  intro o x
  rw [blk_cell h]
  match o with
  | 0 => simp
  | 1 => simp
  | 2 => simp
  | 3 => simp
  | (o + 4) => simp
theorem no_u8_bool {w : World} {g : Nat} {b : Bool} {t : TypeId} (h : w.heap[g]? = some (.cells #[.bool b] t (0, 0))) : ∀ o x, w.cell? ⟨g, o, none⟩ ≠ some (.int .u8 x) := by
  intro o x
  rw [blk_cell h]
  match o with
  | 0 => simp
  | (o + 1) => simp
theorem AttIs.keep {w w' : World} {v : Value} {N P : Int} {ax dx : List Int} {g : Nat} (h : AttIs w v N ax P dx) (hg : ∀ o x, w.cell? ⟨g, o, none⟩ ≠ some (.int .u8 x)) (k : Kept [g] w w') : AttIs w' v N ax P dx := by
  obtain ⟨aA, an, ac, dA, dn, dc, e, h1, h2, h3, h4, h5, h6, h7⟩ := h
  exact ⟨aA, an, ac, dA, dn, dc, e, h1, h2, rd_keep h3 hg k, h4, h5, rd_keep h6 hg k, h7⟩

set_option maxRecDepth 100000 in
set_option maxHeartbeats 4000000 in
theorem get_msg (n c : Nat) (k : Int) (A : Option Addr) (raw : List Int) (t : Int) (v id : List Int) (w : World) (hn : raw.length = n) (hnc : n ≤ c) (hR : Rd w A raw) (hm : IsMsg raw t v id)
    (b : Bool) (G : Int → List Int → Int → List Int → Prop) (hgot : ∀ (g : Nat) (w1 : World), MsgHas w1 g t v id → Calls Tryz.prog 21 #[.int .i64 k, .pointer (some ⟨g, 0, none⟩)] w1 fun e w' => ∃ N' aA an ac P' dA dn dc, e = .returned (.tuple #[atV N' aA an ac P' dA dn dc, .bool b]) ∧ (b = true → ∃ N0 ax P0 dx, AttIs w' (atV N' aA an ac P' dA dn dc) N0 ax P0 dx ∧ G N0 ax P0 dx) ∧ Below w1.heap.size w1 w') :
    Calls Tryz.prog 8 #[.int .i64 k, .slice A n c] w fun e w' => ∃ v, (∃ N' aA an ac P' dA dn dc, v = atV N' aA an ac P' dA dn dc) ∧ e = .returned (.tuple #[v, .bool b]) ∧ (b = true → ∃ N0 ax P0 dx, AttIs w' v N0 ax P0 dx ∧ G N0 ax P0 dx) ∧ Below w.heap.size w w' := by
  have hmf : ∀ (fn : Fn) (first cap : Array Value) (w : World), (Instr.makeFunc fn first cap).run Tryz.prog w = .ok (.func fn first cap) w := fun _ _ _ _ => rfl
  have HN := Lib.hid hn
  have HR := Lib.hid hR
  have HM := Lib.hid hm
  have HG := Lib.hid hgot
  clear hn hR hm hgot
  go_enter Tryz.func8, Tryz.ntmps8
  go_wp2_with fail
  obtain ⟨W, hW⟩ : ∃ W, W = (((w.alloc (.cells #[.int .i64 k] 3)).alloc (.cells #[.slice A n c] 24)).alloc (.cells #[.int .u32 0, .slice none 0 0, .int .i64 0, .slice none 0 0] 26)) := ⟨_, rfl⟩
  rw [← hW]
  have hs : W.heap.size = w.heap.size + 3 := by subst hW; simp
  have b0 : W.heap[w.heap.size]? = some (.cells #[.int .i64 k] 3 (0, 0)) := by subst hW; exact blk_alloc (blk_alloc (heap_alloc_new w _) _) _
  have b1 : W.heap[w.heap.size + 1]? = some (.cells #[.slice A n c] 24 (0, 0)) := by subst hW; exact blk_alloc (heap_at _ _ _ (by simp)) _
  have b2 : W.heap[w.heap.size + 1 + 1]? = some (.cells #[.int .u32 0, .slice none 0 0, .int .i64 0, .slice none 0 0] 26 (0, 0)) := by subst hW; exact heap_at _ _ _ (by simp)
  have hK0 : Kept [] w W := by subst hW; exact (by repeat (first | exact Kept.refl _ _ | apply Kept.drewN | apply Kept.drew | (refine Kept.setCell ?_ (by simp) _) | apply Kept.alloc))
  have HW := Lib.hid (And.intro hs (And.intro b0 (And.intro b1 (And.intro b2 hK0))))
  clear hs b0 b1 b2 hK0 hW
  refine (try_any 19 _ W (fun b' w' => b' = b ∧ Kept [w.heap.size + 1 + 1] W w' ∧ w'.heap[W.heap.size]? = some (.cells #[.bool false] 4 (0, 0)) ∧
      ∃ N' aA an ac P' dA dn dc, w'.heap[w.heap.size + 1 + 1]? = some (.cells #[.int .u32 N', .slice aA an ac, .int .i64 P', .slice dA dn dc] 26 (0, 0)) ∧ (b = true → ∃ N0 ax P0 dx, AttIs w' (atV N' aA an ac P' dA dn dc) N0 ax P0 dx ∧ G N0 ax P0 dx)) (enterGet1 _) ?_).mono ?_
  · refine (get1_msg (w.heap.size + 1) w.heap.size (w.heap.size + 1 + 1) n c k A raw t v id _ HN.out hnc ?_ HM.out ?_ ?_ ?_ b (fun v w' => b = true → ∃ N0 ax P0 dx, AttIs w' v N0 ax P0 dx ∧ G N0 ax P0 dx) HG.out).mono ?_
    · exact (HR.out.kept HW.out.2.2.2.2 (by simp)).alloc _
    · exact (blk_cell (blk_alloc HW.out.2.2.1 _) 0).trans rfl
    · exact (blk_cell (blk_alloc HW.out.2.1 _) 0).trans rfl
    · exact blk_alloc HW.out.2.2.2.1 _
    · rintro e w' ⟨rfl, hK, N', aA, an, ac, P', dA, dn, dc, w1, hq, hA, hk1, hz⟩
      have hs := HW.out.1
      have hb := blk_kept (heap_alloc_new W (.cells #[.bool false] 4)) hK (by simp; omega)
      exact ⟨b, rfl, hb, rfl, ((Kept.refl _ W).alloc _).trans hK (by simp), hb, N', aA, an, ac, P', dA, dn, dc, hq, fun hbt => by
        obtain ⟨N0, ax, P0, dx, hAtt, hG⟩ := hA hbt
        exact ⟨N0, ax, P0, dx, hAtt.keep (no_u8_attr hz) hk1, hG⟩⟩
  rintro e w' ⟨b', w1, rfl, ⟨rfl, hK, hbb, N', aA, an, ac, P', dA, dn, dc, hq, hA⟩, rfl⟩
  obtain ⟨hs, b0, b1, b2, hK0⟩ := HW.out
  obtain ⟨w2, hw2⟩ : ∃ w2, w2 = w1.setCell ⟨W.heap.size, 0, none⟩ (.bool b') := ⟨_, rfl⟩
  have hq2 : w2.heap[w.heap.size + 1 + 1]? = some (.cells #[.int .u32 N', .slice aA an ac, .int .i64 P', .slice dA dn dc] 26 (0, 0)) := by rw [hw2]; exact blk_far hq (by simp; omega) _
  have hk12 : Kept [W.heap.size] w1 w2 := by rw [hw2]; exact (Kept.refl _ _).setCell (.inl (by simp)) _
  have hk2 : Kept [] w w2 := ((hK0.mono (T := [w.heap.size + 1 + 1]) (by simp)).trans hK (by simp) |>.mono (T := []) (by simp; omega)).trans hk12 (by simp; omega)
  have HA2 : Hid (b' = true → ∃ N0 ax P0 dx, AttIs w2 (atV N' aA an ac P' dA dn dc) N0 ax P0 dx ∧ G N0 ax P0 dx) := Lib.hid (fun hbt => by
    obtain ⟨N0, ax, P0, dx, hAtt, hG⟩ := hA hbt
    exact ⟨N0, ax, P0, dx, hAtt.keep (no_u8_bool hbb) hk12, hG⟩)
  rw [← hw2]
  have HQ2 := Lib.hid hq2
  have HK2 := Lib.hid hk2
  obtain ⟨q0, q1, q2, q3⟩ := cells4 hq2
  have z0 := blk_free hq2 0
  have z1 := blk_free hq2 1
  have z2 := blk_free hq2 2
  have z3 := blk_free hq2 3
  clear hw2 HW hs b0 b1 b2 hK0 hK hbb hq hA hq2 hk12 hk2 HG HR
  cases b' with
  | false =>
    go_wp2_with fail
    obtain ⟨w4, hw4⟩ : ∃ w4, w4 = (((w2.setCell ⟨w.heap.size + 1 + 1, 0, none⟩ (.int .u32 0)).setCell ⟨w.heap.size + 1 + 1, 1, none⟩ (.slice none 0 0)).setCell ⟨w.heap.size + 1 + 1, 2, none⟩ (.int .i64 0)).setCell ⟨w.heap.size + 1 + 1, 3, none⟩ (.slice none 0 0) := ⟨_, rfl⟩
    have hb4 : w4.heap[w.heap.size + 1 + 1]? = some (.cells #[.int .u32 0, .slice none 0 0, .int .i64 0, .slice none 0 0] 26 (0, 0)) := by rw [hw4]; exact blk_set (blk_set (blk_set (blk_set HQ2.out 0 _) 1 _) 2 _) 3 _
    have hk4 : Kept [w.heap.size + 1 + 1] w2 w4 := by rw [hw4]; exact ((((Kept.refl _ _).setCell (.inl (by simp)) _).setCell (.inl (by simp)) _).setCell (.inl (by simp)) _).setCell (.inl (by simp)) _
    obtain ⟨e0, e1, e2, e3⟩ := cells4 hb4
    rw [← hw4]
    clear hw4 q0 q1 q2 q3 z0 z1 z2 z3
    refine bodyPost_ret (v := .tuple #[atV 0 none 0 0 0 none 0 0, .bool false]) (by simp [results, Tryz.results8, go_sem, e0, e1, e2, e3]) rfl ?_
    exact ⟨_, ⟨_, _, _, _, _, _, _, _, rfl⟩, rfl, (fun h => by cases h), (HK2.out.trans hk4 (fun t ht => by simp at ht; subst ht; exact .inr (by omega))).toBelow⟩
  | true =>
    go_wp2_with fail
    obtain ⟨w4, hw4⟩ : ∃ w4, w4 = (((w2.setCell ⟨w.heap.size + 1 + 1, 0, none⟩ (.int .u32 N')).setCell ⟨w.heap.size + 1 + 1, 1, none⟩ (.slice aA an ac)).setCell ⟨w.heap.size + 1 + 1, 2, none⟩ (.int .i64 P')).setCell ⟨w.heap.size + 1 + 1, 3, none⟩ (.slice dA dn dc) := ⟨_, rfl⟩
    have hb4 : w4.heap[w.heap.size + 1 + 1]? = some (.cells #[.int .u32 N', .slice aA an ac, .int .i64 P', .slice dA dn dc] 26 (0, 0)) := by rw [hw4]; exact blk_set (blk_set (blk_set (blk_set HQ2.out 0 _) 1 _) 2 _) 3 _
    have hk4 : Kept [w.heap.size + 1 + 1] w2 w4 := by rw [hw4]; exact ((((Kept.refl _ _).setCell (.inl (by simp)) _).setCell (.inl (by simp)) _).setCell (.inl (by simp)) _).setCell (.inl (by simp)) _
    obtain ⟨e0, e1, e2, e3⟩ := cells4 hb4
    rw [← hw4]
    clear hw4 q0 q1 q2 q3 z0 z1 z2 z3
    refine bodyPost_ret (v := .tuple #[atV N' aA an ac P' dA dn dc, .bool true]) (by simp [results, Tryz.results8, go_sem, e0, e1, e2, e3]) rfl ?_
    exact ⟨_, ⟨_, _, _, _, _, _, _, _, rfl⟩, rfl, (by
      obtain ⟨N0, ax, P0, dx, hAtt, hG⟩ := HA2.out trivial
      exact ⟨N0, ax, P0, dx, hAtt.keep (no_u8_attr HQ2.out) hk4, hG⟩), (HK2.out.trans hk4 (fun t ht => by simp at ht; subst ht; exact .inr (by omega))).toBelow⟩
end Go.Proofs.YthgghgejndncnaaGreat
