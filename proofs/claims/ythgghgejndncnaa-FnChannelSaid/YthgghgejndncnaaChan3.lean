/- 'impl.ParseChannel': what is read of a channel's bytes. -/
import Derived.Test.YthgghgejndncnaaChan2
import Derived.Test.YthgghgejndncnaaClone
import Derived.Test.YthgghgejndncnaaTry
import Derived.Deep.RegionHeld3
import Derived.Deep.RegionWith
import Derived.Deep.Cut
import Derived.Deep.CutRange
namespace Go.Proofs.Ythgghgejndncnaa
open Go.RowKit
set_option linter.unusedSimpArgs false
set_option linter.unusedVariables false

/-- every member is a byte -/
def Bys (xs : List Int) : Prop := ∀ x ∈ xs, 0 ≤ x ∧ x ≤ 255
theorem Bys.at_ {xs : List Int} (h : Bys xs) (j : Nat) : 0 ≤ xs.getD j 0 ∧ xs.getD j 0 ≤ 255 := by
  rw [List.getD_eq_getElem?_getD]
  rcases Nat.lt_or_ge j xs.length with hj | hj
  · rw [List.getElem?_eq_getElem hj]; exact h _ (List.getElem_mem hj)
  · rw [List.getElem?_eq_none hj]; simp

def cdNum (raw : List Int) : Int := raw.getD 0 0 * 256 + raw.getD 1 0
def cdLen (raw : List Int) : Int := raw.getD 2 0 * 256 + raw.getD 3 0
/-- bytes that are no channel data -/
def cdBad (raw : List Int) : Prop := raw.length < 4 ∨ ¬ (16384 ≤ cdNum raw ∧ cdNum raw ≤ 32767) ∨ (raw.length : Int) < 4 + cdLen raw

theorem cdDecode_bad (g n c : Nat) (A : Option Addr) (raw : List Int) (w : World) (hn : raw.length = n) (hnc : n ≤ c) (hb : Bys raw) (hR : Rd w A raw) (hA : ∀ a, A = some a → a.block ≠ g) (hbad : cdBad raw)
    (hg : w.heap[g]? = some (.cells #[.slice none 0 0, .int .i64 0, .int .u16 0, .slice A n c] 56 (0, 0))) :
    Calls Try.prog 31 #[.pointer (some ⟨g, 0, none⟩)] w fun e w' => ∃ u x, e = .returned (.iface u x) ∧ Kept [g] w w' := by
  by_cases h4 : n < 4
  · exact cdDecode_short g n c A w h4 hnc hg
  · obtain ⟨b, o, rfl, hc⟩ := hR (fun e => by subst e; simp at hn; omega)
    have hbg : g ≠ b := fun e => hA _ rfl e.symm
    have k0 := hc 0 (by omega)
    have k1 := hc 1 (by omega)
    have k2 := hc 2 (by omega)
    have k3 := hc 3 (by omega)
    unfold cdBad cdNum cdLen at hbad
    by_cases hv : 16384 ≤ raw.getD 0 0 * 256 + raw.getD 1 0 ∧ raw.getD 0 0 * 256 + raw.getD 1 0 ≤ 32767
    · exact cdDecode_length g b o n c _ _ _ _ w (by omega) hnc hbg (hb.at_ 0) (hb.at_ 1) (hb.at_ 2) (hb.at_ 3) k0 k1 k2 k3 hg (by rw [Bool.and_eq_true, decide_eq_true_eq, decide_eq_true_eq]; exact hv) (by rcases hbad with h | h | h <;> first | omega | exact absurd hv h)
    · exact cdDecode_number g b o n c _ _ _ _ w (by omega) hnc hbg (hb.at_ 0) (hb.at_ 1) (hb.at_ 2) (hb.at_ 3) k0 k1 k2 k3 hg (by rw [Bool.and_eq_false_iff, decide_eq_false_iff_not, decide_eq_false_iff_not]; omega)

theorem cdDecode_good (g n c : Nat) (A : Option Addr) (raw : List Int) (w : World) (hn : raw.length = n) (hnc : n ≤ c) (hb : Bys raw) (hR : Rd w A raw) (hA : ∀ a, A = some a → a.block ≠ g) (h4 : 4 ≤ n)
    (hv : 16384 ≤ cdNum raw ∧ cdNum raw ≤ 32767) (l : Nat) (hl : cdLen raw = l) (hlen : 4 + l ≤ n)
    (hg : w.heap[g]? = some (.cells #[.slice none 0 0, .int .i64 0, .int .u16 0, .slice A n c] 56 (0, 0))) :
    Calls Try.prog 31 #[.pointer (some ⟨g, 0, none⟩)] w fun e w' => e = .returned .nilIface ∧ ∃ A' c',
      w'.heap[g]? = some (.cells #[.slice A' l c', .int .i64 l, .int .u16 (cdNum raw), .slice A n c] 56 (0, 0)) ∧ l ≤ c' ∧ Rd w' A' ((raw.drop 4).take l) ∧ Kept [g] w w' := by
  obtain ⟨b, o, rfl, hc⟩ := hR (fun e => by subst e; simp at hn; omega)
  have hbg : g ≠ b := fun e => hA _ rfl e.symm
  have k0 := hc 0 (by omega)
  have k1 := hc 1 (by omega)
  have k2 := hc 2 (by omega)
  have k3 := hc 3 (by omega)
  unfold cdNum at hv ⊢
  unfold cdLen at hl
  refine (cdDecode_ok g b o n c _ _ _ _ w (by omega) hnc hbg (hb.at_ 0) (hb.at_ 1) (hb.at_ 2) (hb.at_ 3) k0 k1 k2 k3 hg raw hn hR (by rw [Bool.and_eq_true, decide_eq_true_eq, decide_eq_true_eq]; exact hv) l hl hlen).mono ?_
  rintro e w' ⟨he, A', c', h1, h2, h3, h4, h5⟩
  exact ⟨he, A', c', h1, h2, h3, h5⟩

theorem enter29 (args : Array Value) (w : World) : (callFunc 29 args).run Try.prog w = .ok (.enter 29 args) w :=
  enters Try.func29 (by kernel_rfl) rfl args w

/-- the closure, where the bytes are none of channel data -/
theorem parse1_bad (p0 p1 p2 n c : Nat) (A : Option Addr) (raw : List Int) (w : World) (hn : raw.length = n) (hnc : n ≤ c) (hl : n ≤ 999999) (hb : Bys raw) (hR : Rd w A raw) (hbad : cdBad raw)
    (h0 : w.cell? ⟨p0, 0, none⟩ = some (.slice A n c)) :
    Calls Try.prog 29 #[.pointer (some ⟨p0, 0, none⟩), .pointer (some ⟨p1, 0, none⟩), .pointer (some ⟨p2, 0, none⟩)] w fun e w' => e = .returned (.bool false) ∧ Kept [] w w' := by
  have HN := Lib.hid hn
  have HR := Lib.hid hR
  have HBy := Lib.hid hb
  have HBad := Lib.hid hbad
  clear hn hR hb hbad
  go_enter Try.func29, Try.ntmps29
  go_wp2_with fail
  refine (cloneB_any A n c raw _ HN.out hl HR.out).mono ?_
  rintro e w1 ⟨v1, rfl, hown, hB⟩
  obtain ⟨-, A1, c1, rfl, hc1, hcm1, hR1⟩ := own_rd hown
  have HR1 := Lib.hid hR1
  have HO := Lib.hid hown
  clear hR1 hown
  go_wp2_with fail
  refine (cdDecode_bad w1.heap.size n c1 A1 raw _ HN.out hc1 HBy.out (HR1.out.alloc _) ?_ HBad.out (heap_alloc_new w1 _)).mono ?_
  · intro a ha
    subst ha
    have := (HO.out.lt a.block (by simp [Value.ownBlock])).2
    omega
  rintro e w2 ⟨u, x, rfl, hK⟩
  go_wp2_with fail
  go_ret
  exact ⟨rfl, ((Kept.of_below (S := []) hB).alloc _).trans hK (by simp; exact hB.size)⟩

set_option maxHeartbeats 1000000 in
/-- the closure, where the bytes are channel data -/
theorem parse1_good (p0 p1 p2 n c : Nat) (A : Option Addr) (raw : List Int) (w : World) (hn : raw.length = n) (hnc : n ≤ c) (hl : n ≤ 999999) (hb : Bys raw) (hR : Rd w A raw)
    (h4 : 4 ≤ n) (hv : 16384 ≤ cdNum raw ∧ cdNum raw ≤ 32767) (l : Nat) (hll : cdLen raw = l) (hlen : 4 + l ≤ n)
    (h01 : p0 ≠ p1) (h02 : p0 ≠ p2) (h12 : p1 ≠ p2)
    (h0 : w.cell? ⟨p0, 0, none⟩ = some (.slice A n c)) (h1 : w.heap[p1]? = some (.cells #[.int .i64 0] 3 (0, 0))) (h2 : w.heap[p2]? = some (.cells #[.slice none 0 0] 24 (0, 0))) :
    Calls Try.prog 29 #[.pointer (some ⟨p0, 0, none⟩), .pointer (some ⟨p1, 0, none⟩), .pointer (some ⟨p2, 0, none⟩)] w fun e w' => e = .returned (.bool true) ∧ Kept [p1, p2] w w' ∧
      ∃ v, w'.heap[p1]? = some (.cells #[.int .i64 (cdNum raw)] 3 (0, 0)) ∧ w'.heap[p2]? = some (.cells #[v] 24 (0, 0)) ∧ w'.ownsRow w.heap.size 5 1 v l (nums ((raw.drop 4).take l)) := by
  have HN := Lib.hid hn
  have HR := Lib.hid hR
  have HBy := Lib.hid hb
  have HL := Lib.hid hll
  have H1 := Lib.hid h1
  have H2 := Lib.hid h2
  clear hn hR hb hll h1 h2
  go_enter Try.func29, Try.ntmps29
  go_wp2_with fail
  refine (cloneB_any A n c raw _ HN.out hl HR.out).mono ?_
  rintro e w1 ⟨v1, rfl, hown, hB⟩
  obtain ⟨-, A1, c1, rfl, hc1, hcm1, hR1⟩ := own_rd hown
  have HR1 := Lib.hid hR1
  have HO := Lib.hid hown
  have HB := Lib.hid hB
  clear hR1 hown hB
  go_wp2_with fail
  refine (cdDecode_good w1.heap.size n c1 A1 raw _ HN.out hc1 HBy.out (HR1.out.alloc _) ?_ h4 hv l HL.out hlen (heap_alloc_new w1 _)).mono ?_
  · intro a ha
    subst ha
    have := (HO.out.lt a.block (by simp [Value.ownBlock])).2
    omega
  rintro e w2 ⟨rfl, A2, c2, hb2, hc2, hR2, hK⟩
  have hlt1 := HB.out.size
  have hK2 : Kept [] w w2 := ((Kept.of_below (S := []) HB.out).alloc _).trans hK (by simp; exact hlt1)
  have k2 : w2.cell? ⟨w1.heap.size, 2, none⟩ = some (.int .u16 (cdNum raw)) := (blk_cell hb2 2).trans rfl
  have k0 : w2.cell? ⟨w1.heap.size, 0, none⟩ = some (.slice A2 l c2) := (blk_cell hb2 0).trans rfl
  have q1 := blk_kept H1.out hK2 (by simp)
  have q2 := blk_kept H2.out hK2 (by simp)
  have d1 : w2.cell? ⟨p1, 0, none⟩ = some (.int .i64 0) := (blk_cell q1 0).trans rfl
  have d2 : w2.cell? ⟨p2, 0, none⟩ = some (.slice none 0 0) := (blk_cell q2 0).trans rfl
  have f1 := blk_free q1 0
  have f2 := blk_free q2 0
  have b0 : 0 ≤ cdNum raw ∧ cdNum raw ≤ 65535 := by omega
  have s1 := blk_lt q1
  have s2 := blk_lt q2
  have n1 : ¬ p1 = w1.heap.size := by have := blk_lt H1.out; omega
  have n2 : ¬ p2 = w1.heap.size := by have := blk_lt H2.out; omega
  have Q1 := Lib.hid q1
  have Q2 := Lib.hid q2
  have HK2 := Lib.hid hK2
  have HR2 := Lib.hid hR2
  have HB2 := Lib.hid hb2
  clear q1 q2 hK2 hK hR2 hb2 hlt1
  go_wp2_with fail
  go_region_held3 (fun w' => w'.cell? ⟨w1.heap.size, 2, none⟩ = some (.int .u16 (cdNum raw)) ∧ w'.cell? ⟨w1.heap.size, 0, none⟩ = some (.slice A2 l c2))
    (first | exact ⟨cell_later hB3 k2, cell_later hB3 k0⟩ | (refine ⟨?_, ?_⟩ <;> go_keep; done) | (go_keep; done))
    ((go_at_call 30; refine (cloneB_any A2 l c2 ((raw.drop 4).take l) _ ?_ ?_ ?_).mono ?_; (have := HN.out; simp; omega); omega; exact HR2.out; rintro e w3 ⟨v3, rfl, hown3, hB3⟩; obtain ⟨-, A3, c3, rfl, -, -, -⟩ := own_rd hown3; have HO3 := Lib.hid hown3; clear hown3; have e1 := cell_later hB3 d1; have e2 := cell_later hB3 d2; have g1 := (hB3.frozen (p := ⟨p1, 0, none⟩) s1).trans f1; have g2 := (hB3.frozen (p := ⟨p2, 0, none⟩) s2).trans f2))
  rename_i hh
  clear hh e1 e2 g1 g2
  go_wp2_with fail
  go_ret
  have hwr : IntKind.i64.wrap (cdNum raw) = cdNum raw := wraps_i64 _ (by omega) (by omega)
  have hB3' : Below w2.heap.size w2 w3 := ⟨hB3.os, hB3.tape, hB3.output, hB3.size, hB3.block⟩
  have hK3 : Kept [p1, p2] w w3 := (HK2.out.trans (Kept.of_below (S := []) hB3') (by simp)).mono (by simp)
  refine ⟨rfl, (hK3.setCell (.inl (by simp)) _).setCell (.inl (by simp)) _, .slice A3 l c3, ?_, ?_, ?_⟩
  · rw [hwr]
    exact blk_far (blk_set (blk_below Q1.out hB3') 0 _) h12 _
  · exact (blk_set (blk_far (blk_below Q2.out hB3') (Ne.symm h12) _) 0 _)
  · have hO := HO3.out
    exact own_lower (ownsRow_setCell_below (ownsRow_setCell_below hO (a := ⟨p1, 0, none⟩) s1 _) (a := ⟨p2, 0, none⟩) s2 _) HK2.out.size
end Go.Proofs.Ythgghgejndncnaa
