/- 'impl.Add': what sets and what adds is left open. -/
import Derived.Test.YthgghgejndncnaaGreatAdd1
namespace Go.Proofs.YthgghgejndncnaaGreat
open Go.RowKit
set_option linter.unusedSimpArgs false
set_option linter.unusedVariables false

/-- a block in which no byte lies is no matter to bytes -/
theorem rd_keepA {w w' : World} {g : Nat} {A : Option Addr} {xs : List Int} (h : Rd w A xs) (hg : ∀ o x, w.cell? ⟨g, o, none⟩ ≠ some (.int .u8 x)) (k : Kept [g] w w') : Rd w' A xs := by
  by_cases hx : xs = []
  · rw [hx]; exact Rd.nil _ _
  · obtain ⟨b, o, rfl, hc⟩ := h hx
    have h0 := hc 0 (by cases xs with | nil => exact absurd rfl hx | cons a l => simp)
    refine Rd.kept (fun _ => ⟨b, o, rfl, hc⟩) k (fun a e => ?_)
    injection e with e
    subst e
    intro hb
    have hb' : b = g := by simpa using hb
    subst hb'
    exact hg _ _ h0
theorem no_u8_boolA {w : World} {g : Nat} {b : Bool} {t : TypeId} (h : w.heap[g]? = some (.cells #[.bool b] t (0, 0))) : ∀ o x, w.cell? ⟨g, o, none⟩ ≠ some (.int .u8 x) := by
  intro o x
  rw [blk_cell h]
  match o with
  | 0 => simp
  | (o + 1) => simp
theorem no_u8_slcA {w : World} {g : Nat} {A : Option Addr} {n c : Nat} {t : TypeId} (h : w.heap[g]? = some (.cells #[.slice A n c] t (0, 0))) : ∀ o x, w.cell? ⟨g, o, none⟩ ≠ some (.int .u8 x) := by
  intro o x
  rw [blk_cell h]
  match o with
  | 0 => simp
  | (o + 1) => simp

set_option maxRecDepth 100000 in
set_option maxHeartbeats 4000000 in
theorem add_any (k : Int) (id : List Int) (N : Int) (aA : Option Addr) (an ac : Nat) (P : Int) (dA : Option Addr) (dn dc : Nat) (u : TypeId) (F : FuncId) (t : Int) (v : List Int) (w : World) (hid : id.length = 12) (hl : v.length ≤ 1000)
    (hset : ∀ w1 : World, Below w.heap.size w w1 → Calls Tryz.prog 13 #[.int .i64 k, atV N aA an ac P dA dn dc] w1 fun e w' => ∃ sv, e = .returned (.iface u sv) ∧ Below w1.heap.size w1 w' ∧
      (∀ (K : Nat) (w : World), 0 < K → (method K u sv "AddTo").run Tryz.prog w = .ok (F, sv) w) ∧
      (∀ (g rb : Nat) (bs : List Int) (w2 : World), Kept [] w' w2 → w'.heap.size ≤ g → w'.heap.size ≤ rb → Fresh w2 g rb id bs → Calls Tryz.prog F #[sv, .pointer (some ⟨g, 0, none⟩)] w2 fun e w' => e = .returned .nilIface ∧ Added w2 w' g rb id t v))
    (hF : ∀ (args : Array Value) (w : World), (callFunc F args).run Tryz.prog w = .ok (.enter F args) w) :
    Calls Tryz.prog 7 #[.int .i64 k, idV id, atV N aA an ac P dA dn dc] w fun e w' => ∃ A c, 24 + pad4 v.length ≤ c ∧ e = .returned (.tuple #[.slice A (24 + pad4 v.length) c, .bool true]) ∧ Rd w' A (msgH 0 0 t id v) ∧ Below w.heap.size w w' := by
  have hmf : ∀ (fn : Fn) (first cap : Array Value) (w : World), (Instr.makeFunc fn first cap).run Tryz.prog w = .ok (.func fn first cap) w := fun _ _ _ _ => rfl
  have HSET := Lib.hid hset
  have HI := Lib.hid hid
  clear hset hid
  go_enter Tryz.func7, Tryz.ntmps7
  go_wp2_with fail
  obtain ⟨W0, hW0⟩ : ∃ W0, W0 = ((w.alloc (.cells (nums id).toArray 22)).alloc (.cells #[.int .u32 N, .slice aA an ac, .int .i64 P, .slice dA dn dc] 26)).alloc (.cells #[.slice none 0 0] 24) := ⟨_, rfl⟩
  rw [← hW0]
  have hs0 : W0.heap.size = w.heap.size + 3 := by rw [hW0]; simp
  have b0 : W0.heap[w.heap.size]? = some (.cells (nums id).toArray 22 (0, 0)) := by rw [hW0]; exact blk_alloc (blk_alloc (heap_alloc_new w _) _) _
  have b2 : W0.heap[w.heap.size + 1 + 1]? = some (.cells #[.slice none 0 0] 24 (0, 0)) := by rw [hW0]; exact heap_at _ _ _ (by simp)
  have hB0 : Below w.heap.size w W0 := by rw [hW0]; exact below_then (below_then (below_alloc _ _) (below_alloc _ _)) (below_alloc _ _)
  have H0 := Lib.hid (And.intro hs0 (And.intro b0 (And.intro b2 hB0)))
  clear hW0 hs0 b0 b2 hB0
  refine (HSET.out W0 H0.out.2.2.2).mono ?_
  rintro e w1 ⟨sv, rfl, hB1, hm, hadd⟩
  have HM := Lib.hid (And.intro hm hadd)
  have H1 := Lib.hid (And.intro (blk_below H0.out.2.1 hB1) (And.intro (blk_below H0.out.2.2.1 hB1) (And.intro (below_then H0.out.2.2.2 hB1) (show w.heap.size + 3 ≤ w1.heap.size by have := hB1.size; have := H0.out.1; omega))))
  clear hB1 hm hadd HSET H0
  go_wp2_with fail
  obtain ⟨W, hW⟩ : ∃ W, W = w1.alloc (.cells #[.iface u sv] 41) := ⟨_, rfl⟩
  rw [← hW]
  have b0 : W.heap[w.heap.size]? = some (.cells (nums id).toArray 22 (0, 0)) := by rw [hW]; exact blk_alloc H1.out.1 _
  have b1 : W.heap[w1.heap.size]? = some (.cells #[.iface u sv] 41 (0, 0)) := by rw [hW]; exact heap_alloc_new _ _
  have b2 : W.heap[w.heap.size + 1 + 1]? = some (.cells #[.slice none 0 0] 24 (0, 0)) := by rw [hW]; exact blk_alloc H1.out.2.1 _
  have hk1 : Kept [] w1 W := by rw [hW]; exact (Kept.refl _ _).alloc _
  have hs : W.heap.size = w1.heap.size + 1 := by rw [hW]; simp
  have H2 := Lib.hid (And.intro b0 (And.intro b1 (And.intro b2 (And.intro hk1 hs))))
  clear hW b0 b1 b2 hk1 hs
  refine (try_any 15 _ W (fun b' w' => b' = true ∧ ∃ A c, 24 + pad4 v.length ≤ c ∧ w'.heap[w.heap.size + 1 + 1]? = some (.cells #[.slice A (24 + pad4 v.length) c] 24 (0, 0)) ∧ Rd w' A (msgH 0 0 t id v) ∧ Kept [w.heap.size + 1 + 1] W w' ∧ w'.heap[W.heap.size]? = some (.cells #[.bool false] 4 (0, 0))) (enterAdd1 _) ?_).mono ?_
  · refine (add1_any w.heap.size w1.heap.size (w.heap.size + 1 + 1) id u sv F t v _ HI.out hl HM.out.1 hF ?_ ?_ ?_ ?_).mono ?_
    · intro g rb bs w2 hk hg hr hfr
      have hs := H2.out.2.2.2.2
      have hk' : Kept [] w1 w2 := (H2.out.2.2.2.1.alloc (.cells #[.bool false] 4)).trans hk (by simp)
      have hsz : (W.alloc (.cells #[.bool false] 4)).heap.size = W.heap.size + 1 := by simp
      exact HM.out.2 g rb bs w2 hk' (by omega) (by omega) hfr
    · exact blk_alloc H2.out.1 _
    · exact (blk_cell (blk_alloc H2.out.2.1 _) 0).trans rfl
    · exact blk_alloc H2.out.2.2.1 _
    · rintro e w' ⟨rfl, A, c, hc, hb, hR, hK⟩
      have hs := H2.out.2.2.2.2
      have h3 := H1.out.2.2.2
      have hbb := blk_kept (heap_alloc_new W (.cells #[.bool false] 4)) hK (by simp; omega)
      exact ⟨true, rfl, hbb, rfl, A, c, hc, hb, hR, ((Kept.refl _ W).alloc _).trans hK (fun x hx => .inl hx), hbb⟩
  rintro e w' ⟨b', w3, rfl, ⟨rfl, A, c, hc, hb, hR, hK, hbb⟩, hw'⟩
  have hs := H2.out.2.2.2.2
  have h3 := H1.out.2.2.2
  have hk3 : Kept [W.heap.size] w3 w' := by rw [hw']; exact (Kept.refl _ _).setCell (.inl (by simp)) _
  have hb' : w'.heap[w.heap.size + 1 + 1]? = some (.cells #[.slice A (24 + pad4 v.length) c] 24 (0, 0)) := blk_kept hb hk3 (by simp; omega)
  have hR' : Rd w' A (msgH 0 0 t id v) := rd_keepA hR (no_u8_boolA hbb) hk3
  have hkw : Kept [] w w' := ((((Kept.of_below (S := []) H1.out.2.2.1).trans H2.out.2.2.2.1 (by simp)).trans hK (fun x hx => by simp at hx; subst hx; exact .inr (by omega)))).trans hk3 (fun x hx => by simp at hx; subst hx; exact .inr (by omega))
  have e6 : w'.cell? ⟨w.heap.size + 1 + 1, 0, none⟩ = some (.slice A (24 + pad4 v.length) c) := (blk_cell hb' 0).trans rfl
  have f6 := blk_free hb' 0
  have hR7 : Rd (w'.setCell ⟨w.heap.size + 1 + 1, 0, none⟩ (.slice A (24 + pad4 v.length) c)) A (msgH 0 0 t id v) := rd_keepA hR' (no_u8_slcA hb') ((Kept.refl [w.heap.size + 1 + 1] w').setCell (.inl (by simp)) _)
  have HE := Lib.hid (And.intro hR7 (hkw.setCell (p := ⟨w.heap.size + 1 + 1, 0, none⟩) (.inr (by simp; omega)) (.slice A (24 + pad4 v.length) c)).toBelow)
  have e7 := (blk_cell (blk_set hb' 0 (.slice A (24 + pad4 v.length) c)) 0).trans rfl
  clear hw' hb hR hK hbb hk3 hb' hR' hkw hR7 H2 H1 HM
  go_wp2_with fail
  refine bodyPost_ret (v := .tuple #[.slice A (24 + pad4 v.length) c, .bool true]) (by simp [results, Tryz.results7, go_sem, e7]) rfl ?_
  exact ⟨A, c, hc, rfl, HE.out.1, HE.out.2⟩
end Go.Proofs.YthgghgejndncnaaGreat
