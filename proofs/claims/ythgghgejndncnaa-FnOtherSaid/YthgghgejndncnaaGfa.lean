/- what GetFromAs of both lengths leans on. -/
import Derived.Test.YthgghgejndncnaaXorA
namespace Go.Proofs.Ythgghgejndncnaa
open Go.RowKit
set_option linter.unusedSimpArgs false
set_option linter.unusedVariables false

set_option maxHeartbeats 1000000 in
theorem mGet_yes0 (g : Nat) (t : Int) (v id : List Int) (w0 w : World) (h : MsgHas w0 g t v id) (hB0 : Below w0.heap.size w0 w) (hne : v ≠ []) :
    Calls Try.prog 79 #[.pointer (some ⟨g, 0, none⟩), .int .u16 t] w fun e w' => ∃ A n c, e = .returned (.tuple #[.slice A n c, .nilIface]) ∧ v.length = n ∧ n ≤ c ∧ Rd w' A v ∧ Below w.heap.size w w' ∧ (∀ a, A = some a → a.block < w0.heap.size) := by
  obtain ⟨M, C, L, rw_, ab, cap, A, n, c, l, hg0, hcap, i0, i1, i2, hn, hnc, hR0⟩ := h
  have hg := hg0.below hB0
  have k := Kept.of_below (S := []) hB0
  have h0 := k.cell i0 (by simp)
  have h1 := k.cell i1 (by simp)
  have h2 := k.cell i2 (by simp)
  have hR := hR0.below hB0
  have hAb : ∀ a, A = some a → a.block < w0.heap.size := by
    intro a e
    obtain ⟨b, o, e', hc⟩ := hR0 hne
    subst e
    injection e' with e'
    subst e'
    have := World.block_lt_of_cell? w0 _ (hc 0 (by cases v with | nil => exact absurd rfl hne | cons x xs => simp))
    simpa using this
  have c15 := hg.facts.2.2.2.1
  have H := Lib.hid (And.intro h0 (And.intro h1 (And.intro h2 (And.intro hR hAb))))
  clear h0 h1 h2 hR hg k hg0 i0 i1 i2 hR0 hAb hB0
  go_enter Try.func79, Try.ntmps79
  go_wp2_with (go_at_call 85; refine (attrsGet_yes ab cap t l (.slice A n c) _ rfl hcap H.out.1 H.out.2.1 A n c rfl H.out.2.2.1).mono ?_; rintro e w1 ⟨rfl, hB1⟩)
  have HB1 := Lib.hid hB1
  clear hB1
  refine bodyPost_ret (v := .tuple #[.slice A n c, .nilIface]) (by simp [results, Try.results79, go_sem]) rfl ?_
  exact ⟨A, n, c, rfl, hn, hnc, (H.out.2.2.2.1.below HB1.out).alloc _, below_then HB1.out (below_alloc _ _), H.out.2.2.2.2⟩

/-- what stays while an address is read -/
def GF (w wx : World) (r d g N b o : Nat) (id val : List Int) (port : Int) (T : TypeId) : Prop :=
  wx.heap[r]? = some (.cells #[.slice (some ⟨d, 0, none⟩) N N, .int .i64 port] T (0, 0)) ∧ wx.heap[d]? = some (.cells (nums (List.replicate N 0)).toArray 5 (0, 0)) ∧ Rd wx (some ⟨b, o, none⟩) val ∧ Rd wx (some ⟨g, 3, none⟩) id ∧ Kept [r] w wx
theorem GF.grow {w wx wy : World} {r d g N b o : Nat} {id val : List Int} {port : Int} {T : TypeId} (h : GF w wx r d g N b o id val port T) (k : Below wx.heap.size wx wy) : GF w wy r d g N b o id val port T :=
  ⟨blk_below h.1 k, blk_below h.2.1 k, h.2.2.1.below k, h.2.2.2.1.below k, h.2.2.2.2.then_below (k.mono h.2.2.2.2.size)⟩
theorem GF.drew {w wx : World} {r d g N b o : Nat} {id val : List Int} {port : Int} {T : TypeId} (h : GF w wx r d g N b o id val port T) : GF w wx.drew r d g N b o id val port T := ⟨h.1, h.2.1, h.2.2.1, h.2.2.2.1, h.2.2.2.2.drew⟩
/-- a block that is younger changes -/
theorem GF.young {w wx wy : World} {r d g N b o e : Nat} {id val : List Int} {port : Int} {T : TypeId} (h : GF w wx r d g N b o id val port T) (k : Kept [e] wx wy) (hr : r ≠ e) (hd : d ≠ e) (hb : b ≠ e) (hg : g ≠ e) (he : w.heap.size ≤ e) : GF w wy r d g N b o id val port T :=
  ⟨blk_kept h.1 k (by simpa using hr), blk_kept h.2.1 k (by simpa using hd), h.2.2.1.kept k (fun a q => by injection q with q; subst q; simpa using hb), h.2.2.2.1.kept k (fun a q => by injection q with q; subst q; simpa using hg), h.2.2.2.2.trans k (fun t ht => by simp at ht; subst ht; exact .inr he)⟩
end Go.Proofs.Ythgghgejndncnaa
