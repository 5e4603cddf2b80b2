/- '(*ChannelData).grow' and 'WriteHeader'. -/
import Derived.Test.YthgghgejndncnaaMem
import Derived.Test.YthgghgejndncnaaBytes
import Derived.Test.YthgghgejndncnaaSpec1
import Derived.Deep.LoopGhost
import Derived.Deep.RegionHeld3
import Derived.Deep.RegionWith
import Derived.Handy
import Derived.WalkSpells
import Derived.WalkLawsBesides
namespace Go.Proofs.Ythgghgejndncnaa
open Go.RowKit
set_option linter.unusedSimpArgs false
set_option linter.unusedVariables false

set_option maxHeartbeats 1000000 in
theorem cdgrow_any (g : Nat) (num : Int) (dv : Value) (w : World) (hg : w.heap[g]? = some (.cells #[dv, .int .i64 0, .int .u16 num, .slice none 0 0] 56 (0, 0))) :
    Calls Try.prog 70 #[.pointer (some ⟨g, 0, none⟩), .int .i64 4] w fun e w' => e = .returned (.tuple #[]) ∧ ∃ g' cap cur,
      w'.heap[g]? = some (.cells #[dv, .int .i64 0, .int .u16 num, .slice (some ⟨g', 0, none⟩) 4 cap] 56 (0, 0)) ∧ w'.heap[g']? = some (.cells cur 5 (0, 0)) ∧ cur.size = cap ∧ 4 ≤ cap ∧ cap ≤ maxLen ∧ w.heap.size ≤ g' ∧ Kept [g] w w' := by
  have c3 : w.cell? ⟨g, 3, none⟩ = some (.slice none 0 0) := (blk_cell hg 3).trans rfl
  have HG := Lib.hid hg
  clear hg
  go_enter Try.func70, Try.ntmps70
  go_wp2_with fail
  clear c3
  go_loopg [] 4 (fun kq wr => ∃ (v : Value) (k : Nat), kq + k = 4 ∧ Hid (wr.heap[g]? = some (.cells #[dv, .int .i64 0, .int .u16 num, v] 56 (0, 0))) ∧ Hid (wr.ownsRow w.heap.size 5 1 v k (nums (List.replicate k 0))) ∧ Hid (Kept [g] w wr))
  case atStart => exact ⟨_, 0, rfl, HG, World.ownsRow_nil _ _ _ _, Kept.refl _ _⟩
  case round =>
    obtain ⟨v, k, hk, hb, hO, hK⟩ := hrel
    obtain ⟨-, A5, c5, rfl, hc5, hcm5, -⟩ := own_rd hO.out
    have c3 : wr.cell? ⟨g, 3, none⟩ = some (.slice A5 k c5) := (blk_cell hb.out 3).trans rfl
    have f3 := blk_free hb.out 3
    have hgl := blk_lt hb.out
    by_cases hlt : c5 < 4
    · have t0 : decide ((c5 : Int) < 4) = true := decide_eq_true (by omega)
      have hne : ∀ bb, Value.ownBlock (.slice A5 k c5) = some bb → bb ≠ g := fun bb hbb e => by
        subst e
        have := (hO.out.lt bb hbb).1
        have := blk_lt HG.out
        omega
      have HNE := Lib.hid hne
      clear hne
      go_wp2_with (at_builtin; refine wp_app Try.underlying24 w.heap.size (wr.alloc (.cells #[.int .u8 0] 5)) rfl (.tmp 23) (.tmp 24) rfl (.slice A5 k c5) (List.replicate k 0) [0] k 1 (some ⟨wr.heap.size, 0, none⟩) 1 (by simp) rfl rfl rfl (hO.out.alloc _) (rd_new wr _ [0] rfl) (by have := hK.out.size; simp; omega) (by omega) wr ((Below.refl _ wr).alloc hK.out.size _) ?_; intro v3 w3 hown3 hB3 hg3; obtain ⟨-, A6, c6, rfl, hc6, hcm6, -⟩ := own_rd hown3; have hb3 := blk_grown (blk_alloc hb.out _) hg3.out.1 HNE.out; have d3 : w3.cell? ⟨g, 3, none⟩ = some (.slice A5 k c5) := (blk_cell hb3 3).trans rfl; have e3 := blk_free hb3 3; have HQ3 := Lib.hid hb3; clear hb3; have HB3 := Lib.hid hB3; have HO3 := Lib.hid hown3; clear hB3 hown3)
      go_roundg (gk - 1)
      case measure => omega
      case rel =>
        refine ⟨.slice A6 (k + 1) c6, k + 1, by omega, blk_set HQ3.out 3 _, ?_, (hK.out.then_below HB3.out).setCell (.inl (by simp)) _⟩
        rw [List.replicate_succ']
        exact ownsRow_setCell_below HO3.out (a := ⟨g, 3, none⟩) (blk_lt HG.out) _
    · have t0 : decide ((c5 : Int) < 4) = false := decide_eq_false (by omega)
      have n4 : (4 : Int) ≤ c5 := by omega
      obtain ⟨g', cur, rfl, hg1, hg2, hg3, hg4, hg5, hg6⟩ := own_form hO.out (by omega)
      have HF := Lib.hid (And.intro hg1 (And.intro hg2 hg3))
      clear hg1 hg2 hg3 hg4 hg5 hg6
      go_wp2_with fail
      go_end0
      refine ⟨rfl, g', c5, cur, blk_set hb.out 3 _, blk_far HF.out.2.1 (by have := blk_lt HG.out; have := HF.out.1; simp; omega) _, HF.out.2.2, by omega, hcm5, HF.out.1, hK.out.setCell (.inl (by simp)) _⟩
end Go.Proofs.Ythgghgejndncnaa
