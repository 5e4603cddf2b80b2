/- 'spec.Channel': the bytes of channel data. -/
import Derived.Test.YthgghgejndncnaaMem
import Derived.Test.YthgghgejndncnaaSpec1
import Derived.Deep.LoopGhost
import Derived.WalkSpells
import Derived.WalkLawsBesides
namespace Go.Proofs.Ythgghgejndncnaa
open Go.RowKit
set_option linter.unusedSimpArgs false
set_option linter.unusedVariables false

/-- the bytes of channel data -/
def chanB (num : Int) (xs : List Int) : List Int :=
  [num / 256, num % 256] ++ [(xs.length : Int) / 256, (xs.length : Int) % 256] ++ xs ++ List.replicate (pad4 (4 + xs.length) - (4 + xs.length)) 0

theorem chanB_length (num : Int) (xs : List Int) : (chanB num xs).length = pad4 (4 + xs.length) := by
  simp [chanB, pad4]; omega

set_option maxHeartbeats 1000000 in
theorem sChannel_any (num : Int) (A : Option Addr) (n c : Nat) (xs : List Int) (w : World) (h0 : 0 ≤ num ∧ num ≤ 65535) (hn : xs.length = n) (hl : n ≤ 2000) (h : Rd w A xs) :
    Calls Try.prog 12 #[.int .i64 num, .slice A n c] w fun e w' => ∃ v, e = .returned v ∧ w'.ownsRow w.heap.size 5 1 v (chanB num xs).length (nums (chanB num xs)) ∧ Below w.heap.size w w' := by
  have H := Lib.hid h
  have HN := Lib.hid hn
  clear h hn
  have q0 : num / 256 % 256 = num / 256 := by omega
  have q1 : (n : Int) / 256 % 256 = n / 256 := by omega
  have HQ := Lib.hid (And.intro q0 q1)
  clear q0 q1
  go_enter Try.func12, Try.ntmps12
  go_wp2_with (first
    | (go_at_call 27; refine (put2_any _ _ (by omega)).mono ?_; rintro e w' ⟨rfl, rfl⟩)
    | (at_builtin; refine wp_app Try.underlying24 w.heap.size _ rfl (.tmp 8) (.tmp 12) rfl (.slice (some ⟨w.heap.size, 0, none⟩) 2 2) [num / 256 % 256, num % 256] [(n : Int) / 256 % 256, (n : Int) % 256] 2 2 (some ⟨w.heap.size + 1, 0, none⟩) 2 rfl rfl rfl rfl ((own_new w _ _ [num / 256 % 256, num % 256] rfl (Nat.le_refl _) (by simp)).alloc _) (rd_new (w.alloc _) _ [(n : Int) / 256 % 256, (n : Int) % 256] (by simp)) (by simp; omega) (by omega) w (((Below.refl w.heap.size w).alloc (Nat.le_refl _) _).alloc (by simp) _) ?_; intro v1 w1 hown1 hB1 hg1)
    | (at_builtin; refine wp_app Try.underlying24 w.heap.size w1 rfl (.tmp 13) (.tmp 14) rfl v1 ([num / 256 % 256, num % 256] ++ [(n : Int) / 256 % 256, (n : Int) % 256]) xs (2 + 2) n A c rfl HN.out rfl rfl hown1 (H.out.below hB1) hB1.size (by omega) w hB1 ?_; intro v2 w2 hown2 hB2 hg2))
  rw [HQ.out.1, HQ.out.2] at hown2
  clear hown1 hB1 hg1 hg2 HQ
  have HO := Lib.hid hown2
  have HB := Lib.hid hB2
  clear hown2 hB2
  have hp : pad4 (4 + n) - (4 + n) ≤ 3 := by unfold pad4; omega
  have hp2 : (4 + n + (pad4 (4 + n) - (4 + n))) % 4 = 0 := by unfold pad4; omega
  have HE : Hid (chanB num xs = [num / 256, num % 256] ++ [(n : Int) / 256, (n : Int) % 256] ++ xs ++ List.replicate (pad4 (4 + n) - (4 + n)) 0) := by
    unfold chanB; rw [HN.out]; rfl
  generalize hpe : pad4 (4 + n) - (4 + n) = p at hp hp2 HE
  clear hpe
  go_loopg [5] p (fun kq v5 wr => ∃ m : Nat, kq + m = p ∧ Hid (wr.ownsRow w.heap.size 5 1 v5 (4 + n + m) (nums ([num / 256, num % 256] ++ [(n : Int) / 256, (n : Int) % 256] ++ xs ++ List.replicate m 0))) ∧ Hid (Below w.heap.size w wr))
  case atStart => exact ⟨0, by omega, by simpa using HO, HB⟩
  case round =>
    obtain ⟨m, hm, hO, hB⟩ := hrel
    clear HO HB
    obtain ⟨hl5, A5, c5, rfl, hc5, hcm5, hR5⟩ := own_rd hO.out
    clear hl5 hR5
    have hw : wr.heap.size + 1 = (wr.alloc (.cells #[.int .u8 0] 5)).heap.size := by simp
    by_cases hlt : m < p
    · have t0 : (((4 : Int) + n + m) % 4 == 0) = false := by rw [beq_eq_false_iff_ne]; omega
      have t1 : (((4 : Int) + n + m) % 4 != 0) = true := by rw [bne_iff_ne]; omega
      go_wp2_with (at_builtin; refine wp_app Try.underlying24 w.heap.size (wr.alloc (.cells #[.int .u8 0] 5)) rfl (.tmp 20) (.tmp 21) rfl (.slice A5 (4 + n + m) c5) _ [0] (4 + n + m) 1 (some ⟨wr.heap.size, 0, none⟩) 1 (own_rd hO.out).1 rfl rfl rfl (hO.out.alloc _) (rd_new wr _ [0] rfl) (by have := hB.out.size; simp; omega) (by omega) w (hB.out.alloc hB.out.size _) ?_; intro v3 w3 hown3 hB3 hg3)
      go_roundg (gk - 1)
      case measure => omega
      case rel => exact ⟨m + 1, by omega, by rw [List.replicate_succ', ← List.append_assoc]; exact hown3, hB3⟩
    · obtain rfl : m = p := by omega
      have t0 : (((4 : Int) + n + m) % 4 == 0) = true := by rw [beq_iff_eq]; omega
      have t1 : (((4 : Int) + n + m) % 4 != 0) = false := by rw [bne_eq_false_iff_eq]; omega
      go_wp2
      go_ret
      rw [← HE.out] at hO
      refine ⟨_, rfl, ?_, hB.out⟩
      have hlen : (chanB num xs).length = 4 + n + m := by rw [HE.out]; simp [HN.out]; omega
      rw [hlen]
      exact hO.out
end Go.Proofs.Ythgghgejndncnaa
