/- '(*ChannelData).Encode'. -/
import Derived.Test.YthgghgejndncnaaEnc2
import Derived.Test.YthgghgejndncnaaChan1
import Derived.Deep.RegionLaw
namespace Go.Proofs.Ythgghgejndncnaa
open Go.RowKit
set_option linter.unusedSimpArgs false
set_option linter.unusedVariables false

set_option maxRecDepth 100000 in
set_option maxHeartbeats 1000000 in
theorem cdEncode_any (g n c : Nat) (A : Option Addr) (num : Int) (xs : List Int) (w : World) (hnum : 0 ≤ num ∧ num ≤ 65535) (hn : xs.length = n) (hl : n ≤ 2000) (hR : Rd w A xs) (hA : ∀ a, A = some a → a.block ≠ g)
    (hg : w.heap[g]? = some (.cells #[.slice A n c, .int .i64 0, .int .u16 num, .slice none 0 0] 56 (0, 0))) :
    Calls Try.prog 34 #[.pointer (some ⟨g, 0, none⟩)] w fun e w' => e = .returned (.tuple #[]) ∧ ∃ v,
      w'.heap[g]? = some (.cells #[.slice A n c, .int .i64 0, .int .u16 num, v] 56 (0, 0)) ∧
      w'.ownsRow w.heap.size 5 1 v (chanB num xs).length (nums (chanB num xs)) ∧ Kept [g] w w' := by
  have c3 : w.cell? ⟨g, 3, none⟩ = some (.slice none 0 0) := (blk_cell hg 3).trans rfl
  have f3 := blk_free hg 3
  have HG := Lib.hid hg
  have HN := Lib.hid hn
  have HR := Lib.hid hR
  have HA := Lib.hid hA
  clear hg hn hR hA
  go_enter Try.func34, Try.ntmps34
  go_wp2_with fail
  refine (cdWH_any g n c A num _ hnum hl (blk_set HG.out 3 _)).mono ?_
  rintro e w1 ⟨rfl, g', cap, hb1, hO1, hK1⟩
  have hK : Kept [g] w w1 := ((Kept.refl [g] w).setCell (p := ⟨g, 3, none⟩) (.inl (by simp)) _).trans hK1 (by simp)
  clear c3 f3
  have c0 : w1.cell? ⟨g, 0, none⟩ = some (.slice A n c) := (blk_cell hb1 0).trans rfl
  have c3 : w1.cell? ⟨g, 3, none⟩ = some (.slice (some ⟨g', 0, none⟩) 4 cap) := (blk_cell hb1 3).trans rfl
  have f3 := blk_free hb1 3
  have hs : w.heap.size ≤ g' := by have := (hO1.lt g' rfl).1; simpa using this
  have ngg : g' ≠ g := by have := blk_lt HG.out; omega
  have HB1 := Lib.hid hb1
  have HO1 : Hid (w1.ownsRow w.heap.size 5 1 (.slice (some ⟨g', 0, none⟩) 4 cap) 4 (nums [num / 256, num % 256, (n : Int) / 256, (n : Int) % 256])) := Lib.hid (by simpa using hO1)
  have HK := Lib.hid hK
  have HR1 : Hid (Rd w1.drew A xs) := Lib.hid (HR.out.kept (S := [g]) hK.drew (fun a ha => by simpa using HA.out a ha))
  clear hb1 hO1 hK hK1
  go_wp2_with fail
  go_region_law (refine step_app Try.underlying24 w.heap.size w1.drew rfl (.tmp 19) (.tmp 23) rfl (.slice (some ⟨g', 0, none⟩) 4 cap) [num / 256, num % 256, (n : Int) / 256, (n : Int) % 256] xs 4 n A c rfl HN.out rfl rfl HO1.out HR1.out HK.out.size (by omega) ?_; intro v2 w2 hown2 hg2; have hb2 := blk_grown (w := w1.drew) HB1.out hg2.out.1 (fun b hb => by simp [Value.ownBlock] at hb; omega); have c3' : w2.cell? ⟨g, 3, none⟩ = some (.slice (some ⟨g', 0, none⟩) 4 cap) := (blk_cell hb2 3).trans rfl; have f3' := blk_free hb2 3; obtain ⟨-, A2, c2, rfl, hc2, hcm2, -⟩ := own_rd hown2; have HB2 := Lib.hid hb2; have HO2 := Lib.hid hown2; clear hb2 hown2 c0 c3 f3)
  all_goals
    clear HR1 HO1
    have hpd : pad4 (4 + n) - (4 + n) ≤ 3 := by unfold pad4; omega
    have hpe : pad4 (4 + n) = 4 + n + (pad4 (4 + n) - (4 + n)) := by unfold pad4; omega
    have HE : Hid (chanB num xs = [num / 256, num % 256] ++ [(n : Int) / 256, (n : Int) % 256] ++ xs ++ List.replicate (pad4 (4 + n) - (4 + n)) 0) := by
      unfold chanB; rw [HN.out]; rfl
    have hBl : Below w.heap.size w1.drew w2 := (Below.refl _ _).grown hg2.out.1 HK.out.size (fun k hk => by simp [Value.ownBlock] at hk; omega)
    have hK2 : Kept [g] w (w2.setCell ⟨g, 3, none⟩ (.slice A2 (4 + n) c2)) := (HK.out.drew.then_below hBl).setCell (.inl (by simp)) _
    have hb2 := blk_set HB2.out 3 (.slice A2 (4 + n) c2)
    have hO2 := ownsRow_setCell_below HO2.out (a := ⟨g, 3, none⟩) (blk_lt HG.out) (.slice A2 (4 + n) c2)
    obtain ⟨w3, hw3⟩ : ∃ w3, w3 = w2.setCell ⟨g, 3, none⟩ (.slice A2 (4 + n) c2) := ⟨_, rfl⟩
    rw [← hw3] at hK2 hb2 hO2 ⊢
    have d3 : w3.cell? ⟨g, 3, none⟩ = some (.slice A2 (4 + n) c2) := (blk_cell hb2 3).trans rfl
    have HB3 := Lib.hid hb2
    have HO3 := Lib.hid hO2
    have HK3 := Lib.hid hK2
    clear hK2 hb2 hO2 hw3 c3' f3' hg2 HB2 HO2 hBl HK HB1
    generalize pad4 (4 + n) - (4 + n) = p at hpd hpe HE
    have HP := Lib.hid hpe
    clear hpe
    go_wp2_with fail
    refine (tpad_any _ (4 + n) _ (by omega) (by omega)).mono ?_
    rintro e w' ⟨rfl, rfl⟩
    rw [HP.out]
    rcases Nat.eq_zero_or_pos p with hp0 | hp0
    · subst hp0
      have t0 : decide (((4 + n + 0 : Nat) : Int) - (4 + (n : Int)) > 0) = false := decide_eq_false (by omega)
      go_wp2_with fail
      go_end0
      have hE := HE.out
      rw [List.replicate_zero, List.append_nil] at hE
      have hlen : (chanB num xs).length = 4 + n := by rw [hE]; simp [HN.out]; omega
      refine ⟨rfl, _, HB3.out, ?_, HK3.out⟩
      rw [hlen, hE]
      exact HO3.out
    · have t1 : decide ((4 : Int) + n < 4 + n + p) = true := decide_eq_true (by omega)
      go_wp2_with fail
      clear d3
      go_loopg [4] p (fun kq iv wr => ∃ (v : Value) (k : Nat), kq + k = p ∧ iv = .int .i64 k ∧ Hid (wr.heap[g]? = some (.cells #[.slice A n c, .int .i64 0, .int .u16 num, v] 56 (0, 0))) ∧
          Hid (wr.ownsRow w.heap.size 5 1 v (4 + n + k) (nums ([num / 256, num % 256, (n : Int) / 256, (n : Int) % 256] ++ xs ++ List.replicate k 0))) ∧ Hid (Kept [g] w wr))
      case atStart => exact ⟨_, 0, rfl, rfl, HB3, Lib.hid (by simpa using HO3.out), HK3⟩
      case round =>
        obtain ⟨v, k, hk, rfl, hb, hO, hK⟩ := hrel
        clear HB3 HO3 HK3
        obtain ⟨-, A5, c5, rfl, hc5, hcm5, -⟩ := own_rd hO.out
        have c3 : wr.cell? ⟨g, 3, none⟩ = some (.slice A5 (4 + n + k) c5) := (blk_cell hb.out 3).trans rfl
        have f3 := blk_free hb.out 3
        have hgl := blk_lt hb.out
        by_cases hlt : k < p
        · have hne : ∀ bb, Value.ownBlock (.slice A5 (4 + n + k) c5) = some bb → bb ≠ g := fun bb hbb e => by
            subst e
            have := (hO.out.lt bb hbb).1
            have := blk_lt HG.out
            omega
          have HNE := Lib.hid hne
          clear hne
          go_wp2_with (at_builtin; refine wp_app Try.underlying24 w.heap.size (wr.alloc (.cells #[.int .u8 0] 5)) rfl (.tmp 51) (.tmp 52) rfl (.slice A5 (4 + n + k) c5) _ [0] (4 + n + k) 1 (some ⟨wr.heap.size, 0, none⟩) 1 (own_rd hO.out).1 rfl rfl rfl (hO.out.alloc _) (rd_new wr _ [0] rfl) (by have := hK.out.size; simp; omega) (by omega) wr ((Below.refl _ wr).alloc hK.out.size _) ?_; intro v4 w4 hown4 hB4 hg4; obtain ⟨-, A6, c6, rfl, hc6, hcm6, -⟩ := own_rd hown4; have hb4 := blk_grown (blk_alloc hb.out _) hg4.out.1 HNE.out; have d3 : w4.cell? ⟨g, 3, none⟩ = some (.slice A5 (4 + n + k) c5) := (blk_cell hb4 3).trans rfl; have e3 := blk_free hb4 3; have HQ4 := Lib.hid hb4; clear hb4; have HB4 := Lib.hid hB4; have HO4 := Lib.hid hown4; clear hB4 hown4)
          go_roundg (gk - 1)
          case rel =>
            refine ⟨.slice A6 (4 + n + k + 1) c6, k + 1, by omega, by go_num, blk_set HQ4.out 3 _, ?_, (hK.out.then_below HB4.out).setCell (.inl (by simp)) _⟩
            rw [List.replicate_succ', ← List.append_assoc]
            exact ownsRow_setCell_below HO4.out (a := ⟨g, 3, none⟩) (blk_lt HG.out) _
          case measure => omega
        · obtain rfl : k = p := by omega
          go_wp2_with fail
          go_end0
          have hE := HE.out
          have hlen : (chanB num xs).length = 4 + n + k := by rw [hE]; simp [HN.out]; omega
          refine ⟨rfl, _, hb.out, ?_, hK.out⟩
          rw [hlen, hE]
          exact hO.out
end Go.Proofs.Ythgghgejndncnaa
