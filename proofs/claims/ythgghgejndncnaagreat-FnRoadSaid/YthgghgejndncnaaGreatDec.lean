/- '(*Message).Decode': a message with one attribute. -/
import Derived.Test.YthgghgejndncnaaGreatM4
import Derived.Deep.RegionHeld
import Derived.Deep.LoopGhost
import Derived.Deep.Cut
import Derived.Deep.CutRange
import Derived.Deep.DeepCutAuto
import Derived.Deep.RegionWith
import Derived.WalkSpells
import Derived.WalkLawsBesides
namespace Go.Proofs.YthgghgejndncnaaGreat
open Go.RowKit
set_option linter.unusedSimpArgs false
set_option linter.unusedVariables false

/-- 'x[m:]', the length written out -/
theorem cut_fk {P : Program} {t : TypeId} (ht : P.underlying t = some (.slice 5)) (hinfo : (P.info? 5).map (fun i => (i.zero, i.size, i.bytes)) = some (some (.int .u8 0), 1, 1))
    (A : Option Addr) (n c m k : Nat) (mi : Int) (e1 : mi = m) (hk : n = m + k) (h3 : n ≤ c) :
    ∃ A' : Option Addr, (∀ W : World, (Instr.slice t (.slice A n c) (some (.int .i64 mi)) none none).run P W = .ok (.slice A' k (c - m)) W) ∧
      (∀ (w : World) (xs : List Int), xs.length = n → Rd w A xs → Rd w A' (xs.drop m)) ∧ (∀ a, A' = some a → ∃ a0, A = some a0 ∧ a0.block = a.block) := by
  obtain ⟨A', h1, h2, h4⟩ := cut_from ht hinfo A n c m mi e1 (by omega) h3
  rw [show n - m = k by omega] at h1
  exact ⟨A', h1, h2, h4⟩

/-- a message that has one attribute -/
def MsgHas (w : World) (g : Nat) (t : Int) (v id : List Int) : Prop :=
  ∃ M C L rw_ ab cap A n c l, MsgBlk w g M C L id (.slice (some ⟨ab, 0, none⟩) 1 cap) rw_ ∧ 1 ≤ cap ∧ w.cell? ⟨ab, 0, none⟩ = some (.int .u16 t) ∧ w.cell? ⟨ab, 1, none⟩ = some (.int .u16 l) ∧ w.cell? ⟨ab, 2, none⟩ = some (.slice A n c) ∧
    v.length = n ∧ n ≤ c ∧ Rd w A v

/-- the bytes of a message -/
def msgH (m0 m1 t : Int) (id v : List Int) : List Int := [m0, m1] ++ put2 (attrB t v).length ++ [33, 18, 164, 66] ++ id ++ attrB t v

set_option maxRecDepth 100000 in
set_option maxHeartbeats 4000000 in
theorem mDecode_any (g n c l : Nat) (A : Option Addr) (m0 m1 t : Int) (id v idz : List Int) (w : World) (hg : MsgBlk w g 0 0 0 idz (.slice none 0 0) (.slice A n c)) (hid : id.length = 12) (hv : v.length = l) (hl : l ≤ 1000)
    (ht : 0 ≤ t ∧ t ≤ 255) (ht8 : t ≠ 8) (ht28 : t ≠ 28) (hm0 : 0 ≤ m0 ∧ m0 ≤ 255) (hm1 : 0 ≤ m1 ∧ m1 ≤ 255) (hn : n = 24 + pad4 l) (hnc : n ≤ c) (hR : Rd w A (msgH m0 m1 t id v)) (hA : ∀ a, A = some a → a.block ≠ g) :
    Calls Tryz.prog 31 #[.pointer (some ⟨g, 0, none⟩)] w fun e w' => e = .returned .nilIface ∧ MsgHas w' g t v id ∧ Kept [g] w w' := by
  have hp4 : pad4 (4 + l) = 4 + pad4 l := by unfold pad4; omega
  have hal : (attrB t v).length = 4 + pad4 l := by rw [attrB_length, hv, hp4]
  have hpl : l ≤ pad4 l ∧ pad4 l ≤ 1003 := by unfold pad4; omega
  have hrl : (msgH m0 m1 t id v).length = n := by simp [msgH, put2, hal, hid]; omega
  generalize hp : pad4 l = p at *
  have r0 : ((msgH m0 m1 t id v).drop 0).take 2 = [m0, m1] := by simp [msgH]
  have r2 : ((msgH m0 m1 t id v).drop 2).take 2 = put2 ((4 + p : Nat) : Int) := by simp [msgH, hal, put2]
  have r4 : ((msgH m0 m1 t id v).drop 4).take 4 = [33, 18, 164, 66] := by simp [msgH, put2]
  have r8 : ((msgH m0 m1 t id v).drop 8).take 12 = id := by simp [msgH, put2, ← hid]
  have r20 : ((msgH m0 m1 t id v).drop 20).take (4 + p) = attrB t v := by
    simp [msgH, put2, hid, ← hal, List.drop_append]
  obtain ⟨A0, q0, hA0, -⟩ := cut_mid (P := Tryz.prog) Tryz.underlying24 info_u8 A n c 0 2 2 0 2 rfl rfl rfl (by omega) hnc
  obtain ⟨A2, q2, hA2, -⟩ := cut_mid (P := Tryz.prog) Tryz.underlying24 info_u8 A n c 2 4 2 2 4 rfl rfl rfl (by omega) hnc
  obtain ⟨A4, q4, hA4, -⟩ := cut_mid (P := Tryz.prog) Tryz.underlying24 info_u8 A n c 4 8 4 4 8 rfl rfl rfl (by omega) hnc
  obtain ⟨A8, q8, hA8, hA8b⟩ := cut_mid (P := Tryz.prog) Tryz.underlying24 info_u8 A n c 8 20 12 8 20 rfl rfl rfl (by omega) hnc
  obtain ⟨AB, qB, hAB, hABb⟩ := cut_mid (P := Tryz.prog) Tryz.underlying24 info_u8 A n c 20 n (4 + p) 20 n rfl rfl (by omega) (by omega) hnc
  simp only [Nat.sub_zero] at q0
  have hcB : 4 + p ≤ c - 20 := by omega
  generalize c - 2 = e2 at q2
  generalize c - 4 = e4 at q4
  generalize c - 8 = e8 at q8
  generalize c - 20 = cB at qB hcB
  have R0 := Lib.hid (r0 ▸ hA0 w _ hrl hR)
  have R2 := Lib.hid (r2 ▸ hA2 w _ hrl hR)
  have R4 := Lib.hid (r4 ▸ hA4 w _ hrl hR)
  have R8 := Lib.hid (r8 ▸ hA8 w _ hrl hR)
  have RB := Lib.hid (r20 ▸ hAB w _ hrl hR)
  obtain ⟨b8, o8, rfl, -⟩ := R8.out (by intro e; rw [e] at hid; simp at hid)
  have f := hg.facts
  have c0 := f.1
  have c1 := f.2.1
  have c2 := f.2.2.1
  have c15 := f.2.2.2.1
  have c16 := f.2.2.2.2.1
  have c17 := f.2.2.2.2.2
  have f0 := hg.free 0
  have f1 := hg.free 1
  have f2 := hg.free 2
  have HG := Lib.hid hg
  have HA := Lib.hid hA
  have HM := Lib.hid (And.intro hm0 hm1)
  have HV := Lib.hid hv
  have HI := Lib.hid hid
  have HAL := Lib.hid hal
  have HBK := Lib.hid (And.intro hA8b hABb)
  clear f hA0 hA2 hA4 hA8 hAB r0 r2 r4 r8 r20 hR hrl hg hA hm0 hm1 hA8b hABb hp4 hv hid hal
  have hsz : ((4 + p : Nat) : Int) / 256 % 256 * 256 + ((4 + p : Nat) : Int) % 256 = ((4 + p : Nat) : Int) := by omega
  have t0 : decide ((n : Int) < 20) = false := decide_eq_false (by omega)
  have t1 : decide ((n : Int) < 20 + (4 + (p : Int))) = false := decide_eq_false (by omega)
  have hn20 : (20 : Int) ≤ n := by omega
  have HNN := Lib.hid hn
  have HPP := Lib.hid hp
  clear hn hp
  go_enter Tryz.func31, Tryz.ntmps31
  go_wp2_with (first
    | (go_at_call_of 51 (Value.slice A0 2 c); refine (sbe16_rd A0 2 c m0 m1 [] _ (by omega) HM.out.1 HM.out.2 ?_).mono ?_; exact R0.out; rintro e w' ⟨rfl, k0, rfl⟩)
    | (go_at_call_of 51 (Value.slice A2 2 e2); refine (sbe16_rd A2 2 e2 (((4 + p : Nat) : Int) / 256 % 256) (((4 + p : Nat) : Int) % 256) [] _ (by omega) (by omega) (by omega) ?_).mono ?_; exact R2.out; rintro e w' ⟨rfl, k1, rfl⟩; rw [hsz])
    | (go_at_call 52; refine (sbe32_rd A4 4 e4 33 18 164 66 [] _ (by omega) (by omega) (by omega) (by omega) (by omega) ?_).mono ?_; exact R4.out; rintro e w' ⟨rfl, k2, rfl⟩))
  refine (readValue_any g 0 0 0 idz (.slice none 0 0) (.slice A n c) _ _ ?_).mono ?_
  exact HG.out
  rintro e w1 ⟨rfl, x, y, hw1⟩
  have hg1 : MsgBlk w1 g y x 0 idz (.slice none 0 0) (.slice A n c) := by rw [hw1]; exact (MsgBlk.set1 (w := w.drewN (k0 + k1 + k2)) HG.out x).set0 y
  have hk1 : Kept [g] w w1 := by rw [hw1]; exact ((((Kept.refl _ w).drewN _).setCell (.inl (by simp)) _).setCell (.inl (by simp)) _)
  clear hw1 c0 c1 c2 c15 c16 c17 f0 f1 f2
  have f := hg1.facts
  have c2 := f.2.2.1
  have f2 := hg1.free 2
  have HG1 := Lib.hid hg1
  have HK1 := Lib.hid hk1
  clear hg1 hk1 f
  go_upto_region 14 with fail
  obtain ⟨w2, hw2⟩ : ∃ w2, w2 = w1.setCell ⟨g, 2, none⟩ (.int .u32 (4 + (p : Int))) := ⟨_, rfl⟩
  have hg2 : MsgBlk w2 g y x (4 + (p : Int)) idz (.slice none 0 0) (.slice A n c) := by rw [hw2]; exact HG1.out.set2 _
  have hk2 : Kept [g] w w2 := by rw [hw2]; exact HK1.out.setCell (.inl (by simp)) _
  rw [← hw2]
  clear hw2 c2 f2 HG1 HK1
  have HG2 := Lib.hid hg2
  have HK2 := Lib.hid hk2
  clear hg2 hk2
  go_cut [] (fun wx => Hid (MsgBlk wx g y x (4 + (p : Int)) id (.slice none 0 0) (.slice A n c)) ∧ Hid (Kept [g] w wx))
  case first =>
    refine wp_region_held_drew (S := fun w' => True) (by kernel_rfl) trivial (fun hHeld => ?_)
    refine wpAnyH_take (i := 0) (v := ?_) rfl (by kernel_rfl) (by kernel_rfl) (by kernel_rfl) (fun _ _ _ h => h) (Or.inl ⟨by rfl, ?_⟩) hHeld ?_
    rotate_left
    · (intro w' hSw; (try dsimp only at hSw); go_simp <;> with_reducible rfl)
    simp only [List.getElem_toArray, List.getElem_cons_succ, List.getElem_cons_zero, Act.put, List.setIfInBounds_toArray, List.set_cons_zero, List.set_cons_succ]
    refine wpAnyH_take (i := 1) (v := ?_) rfl (by kernel_rfl) (by kernel_rfl) (by kernel_rfl) (fun _ _ _ h => h) (Or.inl ⟨by rfl, ?_⟩) hHeld ?_
    rotate_left
    · (intro w' hSw; (try dsimp only at hSw); go_simp <;> with_reducible rfl)
    simp only [List.getElem_toArray, List.getElem_cons_succ, List.getElem_cons_zero, Act.put, List.setIfInBounds_toArray, List.set_cons_zero, List.set_cons_succ]
    refine wpAnyH_take (i := 2) (v := ?_) rfl (by kernel_rfl) (by kernel_rfl) (by kernel_rfl) (fun _ _ _ h => h) (Or.inl ⟨by rfl, ?_⟩) hHeld ?_
    rotate_left
    · (intro w' hSw; (try dsimp only at hSw); go_simp <;> with_reducible rfl)
    simp only [List.getElem_toArray, List.getElem_cons_succ, List.getElem_cons_zero, Act.put, List.setIfInBounds_toArray, List.set_cons_zero, List.set_cons_succ]
    refine wpAnyH_take (i := 3) (v := ?_) rfl (by kernel_rfl) (by kernel_rfl) (by kernel_rfl) (fun _ _ _ h => h) (Or.inl ⟨by rfl, ?_⟩) hHeld ?_
    rotate_left
    · (intro w' hSw; (try dsimp only at hSw); go_simp <;> with_reducible rfl)
    simp only [List.getElem_toArray, List.getElem_cons_succ, List.getElem_cons_zero, Act.put, List.setIfInBounds_toArray, List.set_cons_zero, List.set_cons_succ]
    refine wpAnyH_take (i := 4) (v := ?_) rfl (by kernel_rfl) (by kernel_rfl) (by kernel_rfl) (fun _ _ _ h => h) (Or.inl ⟨by rfl, ?_⟩) hHeld ?_
    rotate_left
    · (intro w' hSw; (try dsimp only at hSw); go_simp <;> with_reducible rfl)
    simp only [List.getElem_toArray, List.getElem_cons_succ, List.getElem_cons_zero, Act.put, List.setIfInBounds_toArray, List.set_cons_zero, List.set_cons_succ]
    refine wpAnyH_take (i := 5) (v := ?_) rfl (by kernel_rfl) (by kernel_rfl) (by kernel_rfl) (fun _ _ _ h => h) (Or.inl ⟨by rfl, ?_⟩) hHeld ?_
    rotate_left
    · (intro w' hSw; (try dsimp only at hSw); go_simp <;> with_reducible rfl)
    simp only [List.getElem_toArray, List.getElem_cons_succ, List.getElem_cons_zero, Act.put, List.setIfInBounds_toArray, List.set_cons_zero, List.set_cons_succ]
    refine wpAnyH_ready (rs := [6]) (by kernel_rfl) (by simp) ?_
    refine AllReadyH.cons rfl (fun K hK => ?_) AllReadyH.nil
    have R8' : Rd w2 (some ⟨b8, o8, none⟩) id := R8.out.kept HK2.out (fun a e => by obtain ⟨a0, e0, h0⟩ := HBK.out.1 a e; rw [← h0]; simpa using HA.out a0 e0)
    refine step_copy_own 67 rfl rfl (.tmp 64) (.tmp 66) 24 24 rfl 5 Tryz.underlying24 (by kernel_rfl) g 3 12 12 ⟨b8, o8, none⟩ 12 e8 rfl rfl (msgCs y x (4 + (p : Int)) idz (.slice none 0 0) (.slice A n c)).toArray 54 ?_ (nums id) ?_ ?_ ?_ (nums_one id) ?_
    · exact HG2.out.2
    · rw [nums_length, HI.out]; rfl
    · exact rd_src R8'
    · rw [nums_length, HI.out]; simp [msgCs, nums_length, HG2.out.1]
    simp only [Act.put, List.setIfInBounds_toArray, List.set_cons_zero, List.set_cons_succ]
    have hg3 := msg_copy HG2.out HI.out
    have hk3 := HK2.out.drew.trans (kept_setRow w2.drew g ((msgCs y x (4 + (p : Int)) idz (.slice none 0 0) (.slice A n c)).toArray.toList.take 3 ++ (nums id ++ (msgCs y x (4 + (p : Int)) idz (.slice none 0 0) (.slice A n c)).toArray.toList.drop (3 + (nums id).length))).toArray) (by simp)
    refine hK.out _ _ trivial (fun hHeld => ?_)
    clear hK K
    refine wpAnyH_done (by kernel_rfl) ?_ _
    have HG3 := Lib.hid hg3
    have HK3 := Lib.hid hk3
    clear hg3 hk3 R8'
    go_wp2_with fail
    go_meet
    exact ⟨HG3, HK3⟩
  case rest =>
  clear HG2 HK2
  obtain ⟨HG2, HK2⟩ := hcut
  have f := HG2.out.facts
  have c15 := f.2.2.2.1
  have f15 := HG2.out.free 15
  clear f
  have hq : (20 : Int) + (4 + (p : Int)) = n := by have := HNN.out; omega
  go_wp2_with fail
  clear c15 f15 qB q0 q2 q4 q8 hq
  have hg3 : MsgBlk (wc.setCell ⟨g, 15, none⟩ (.slice none 0 0)) g y x (4 + (p : Int)) id (.slice none 0 0) (.slice A n c) := HG2.out.set15 _
  have hk3 : Kept [g] w (wc.setCell ⟨g, 15, none⟩ (.slice none 0 0)) := HK2.out.setCell (.inl (by simp)) _
  have HG3 := Lib.hid hg3
  have HK3 := Lib.hid hk3
  clear hg3 hk3 HG2 HK2
  obtain ⟨B0, p0, hB0, hB0b⟩ := cut_mid (P := Tryz.prog) Tryz.underlying24 info_u8 AB (4 + p) cB 0 2 2 0 2 rfl rfl rfl (by omega) hcB
  obtain ⟨B2, p2, hB2, hB2b⟩ := cut_mid (P := Tryz.prog) Tryz.underlying24 info_u8 AB (4 + p) cB 2 4 2 2 4 rfl rfl rfl (by omega) hcB
  obtain ⟨B4, p4, hB4, hB4b⟩ := cut_fk (P := Tryz.prog) Tryz.underlying24 info_u8 AB (4 + p) cB 4 p 4 rfl (by omega) hcB
  have hcD : p ≤ cB - 4 := by omega
  generalize cB - 4 = cD at p4 hcD
  obtain ⟨pl, hBl⟩ := cut_to (P := Tryz.prog) Tryz.underlying24 info_u8 B4 p cD l l rfl hpl.1 hcD
  obtain ⟨B5, p5, -, -⟩ := cut_fk (P := Tryz.prog) Tryz.underlying24 info_u8 B4 p cD p 0 p rfl (by omega) hcD
  have hatt : attrB t v = put2 t ++ put2 (l : Int) ++ v ++ List.replicate (pad4 (4 + l) - (4 + l)) 0 := by unfold attrB; rw [HV.out]
  have s0 : ((attrB t v).drop 0).take 2 = put2 t := by rw [hatt]; simp [put2]
  have s2 : ((attrB t v).drop 2).take 2 = put2 (l : Int) := by rw [hatt]; simp [put2]
  have s4 : ((attrB t v).drop 4).take l = v := by rw [hatt, ← HV.out]; simp [put2]
  have S0 := Lib.hid (s0 ▸ hB0 w _ HAL.out RB.out)
  have S2 := Lib.hid (s2 ▸ hB2 w _ HAL.out RB.out)
  have S4 := Lib.hid (s4 ▸ hBl w _ (by rw [List.length_drop, HAL.out]; omega) (hB4 w _ HAL.out RB.out))
  have HBg : Hid (∀ a, AB = some a → a.block ≠ g) := Lib.hid (fun a e => by obtain ⟨a0, e0, h0⟩ := HBK.out.2 a e; rw [← h0]; exact HA.out a0 e0)
  have HN0 : Hid (∀ a, B0 = some a → a.block ≠ g) := Lib.hid (fun a e => by obtain ⟨a0, e0, h0⟩ := hB0b a e; rw [← h0]; exact HBg.out a0 e0)
  have HN2 : Hid (∀ a, B2 = some a → a.block ≠ g) := Lib.hid (fun a e => by obtain ⟨a0, e0, h0⟩ := hB2b a e; rw [← h0]; exact HBg.out a0 e0)
  have HN4 : Hid (∀ a, B4 = some a → a.block ≠ g) := Lib.hid (fun a e => by obtain ⟨a0, e0, h0⟩ := hB4b a e; rw [← h0]; exact HBg.out a0 e0)
  clear s0 s2 s4 hB0 hB2 hB4 hBl hatt hB0b hB2b hB4b
  simp only [Nat.sub_zero] at p0
  generalize cB - 2 = d2 at p2
  generalize cD - p = d5 at p5
  have htt : t / 256 % 256 * 256 + t % 256 = t := by omega
  have hll : (l : Int) / 256 % 256 * 256 + (l : Int) % 256 = l := by omega
  have dd0 : decide ((0 : Int) < 4 + p) = true := decide_eq_true (by omega)
  have dd1 : decide ((4 : Int) + p < 4) = false := decide_eq_false (by omega)
  have dd2 : (t == 8) = false := by rw [beq_eq_false_iff_ne]; exact ht8
  have dd3 : (t == 28) = false := by rw [beq_eq_false_iff_ne]; exact ht28
  have dd4 : (t == 32808) = false := by rw [beq_eq_false_iff_ne]; omega
  go_loopg [8, 9, 10, 11] 1 (fun kq v8 v9 v10 v11 wr => (kq = 1 ∧ v8 = .int .i64 0 ∧ v9 = .slice AB (4 + p) cB ∧ v10 = .bool false ∧ v11 = .bool false ∧ Hid (MsgBlk wr g y x (4 + (p : Int)) id (.slice none 0 0) (.slice A n c)) ∧ Hid (Kept [g] w wr)) ∨
    (kq = 0 ∧ v8 = .int .i64 (4 + p) ∧ Hid (MsgHas wr g t v id ∧ Kept [g] w wr)))
  case atStart => exact .inl ⟨rfl, rfl, rfl, rfl, rfl, HG3, HK3⟩
  case round =>
    clear HG3 HK3
    rcases hrel with ⟨rfl, rfl, rfl, rfl, rfl, HG, HK⟩ | ⟨rfl, rfl, HF⟩
    · go_upto_region 23 with fail
      have S0' := Lib.hid (S0.out.kept HK.out (fun a e => by simpa using HN0.out a e))
      have S2' := Lib.hid (S2.out.kept HK.out (fun a e => by simpa using HN2.out a e))
      have hgl := HG.out.lt
      go_cut [12] (fun v12 wx => v12 = .pointer (some ⟨wr.heap.size, 0, none⟩) ∧ Hid (wx.heap[wr.heap.size]? = some (.cells #[.int .u16 t, .int .u16 l, .slice none 0 0] 105 (0, 0))) ∧ Hid (Below wr.heap.size wr wx))
      case first =>
        refine wp_region_held_drew (S := fun w' => True) (by kernel_rfl) trivial (fun hHeld => ?_)
        refine wpAnyH_take (i := 0) (v := ?_) rfl (by kernel_rfl) (by kernel_rfl) (by kernel_rfl) (fun _ _ _ h => h) (Or.inl ⟨by rfl, ?_⟩) hHeld ?_
        rotate_left
        · (intro w' hSw; (try dsimp only at hSw); go_simp <;> with_reducible rfl)
        simp only [List.getElem_toArray, List.getElem_cons_succ, List.getElem_cons_zero, Act.put, List.setIfInBounds_toArray, List.set_cons_zero, List.set_cons_succ]
        refine wpAnyH_take (i := 1) (v := ?_) rfl (by kernel_rfl) (by kernel_rfl) (by kernel_rfl) (fun _ _ _ h => h) (Or.inl ⟨by rfl, ?_⟩) hHeld ?_
        rotate_left
        · (intro w' hSw; (try dsimp only at hSw); go_simp <;> with_reducible rfl)
        simp only [List.getElem_toArray, List.getElem_cons_succ, List.getElem_cons_zero, Act.put, List.setIfInBounds_toArray, List.set_cons_zero, List.set_cons_succ]
        refine wpAnyH_take (i := 4) (v := ?_) rfl (by kernel_rfl) (by kernel_rfl) (by kernel_rfl) (fun _ _ _ h => h) (Or.inl ⟨by rfl, ?_⟩) hHeld ?_
        rotate_left
        · (intro w' hSw; (try dsimp only at hSw); go_simp <;> with_reducible rfl)
        simp only [List.getElem_toArray, List.getElem_cons_succ, List.getElem_cons_zero, Act.put, List.setIfInBounds_toArray, List.set_cons_zero, List.set_cons_succ]
        refine wpAnyH_take (i := 5) (v := ?_) rfl (by kernel_rfl) (by kernel_rfl) (by kernel_rfl) (fun _ _ _ h => h) (Or.inl ⟨by rfl, ?_⟩) hHeld ?_
        rotate_left
        · (intro w' hSw; (try dsimp only at hSw); go_simp <;> with_reducible rfl)
        simp only [List.getElem_toArray, List.getElem_cons_succ, List.getElem_cons_zero, Act.put, List.setIfInBounds_toArray, List.set_cons_zero, List.set_cons_succ]
        refine wpAnyH_ready (rs := [2, 8]) (by kernel_rfl) (by simp) ?_
        refine AllReadyH.cons rfl (fun K hK => ?_) (AllReadyH.cons rfl (fun K hK => ?_) AllReadyH.nil)
        · go_simp
          go_at_call_of 51 (Value.slice B0 2 cB)
          refine (sbe16_rd B0 2 cB (t / 256 % 256) (t % 256) [] _ (by omega) (by omega) (by omega) ?_).mono ?_
          (first | exact S0'.out | exact (S0'.out.kept hk5 (by simp) : Rd W5 B0 (put2 t)))
          rintro e w' ⟨rfl, k, rfl⟩
          rw [htt]
          refine hK.out _ _ trivial (fun hHeld => ?_)
          clear hK K
          refine wpAnyH_ready (rs := [3, 8]) (by kernel_rfl) (by simp) ?_
          refine AllReadyH.cons rfl (fun K hK => ?_) (AllReadyH.cons rfl (fun K hK => ?_) AllReadyH.nil)
          · go_simp
            go_at_call 56
            refine (compat_any t _ (by omega)).mono ?_
            rintro e w' ⟨rfl, rfl⟩
            refine hK.out _ _ trivial (fun hHeld => ?_)
            clear hK K
            refine wpAnyH_ready (rs := [6, 8]) (by kernel_rfl) (by simp) ?_
            refine AllReadyH.cons rfl (fun K hK => ?_) (AllReadyH.cons rfl (fun K hK => ?_) AllReadyH.nil)
            · go_simp
              go_at_call_of 51 (Value.slice B2 2 d2)
              refine (sbe16_rd B2 2 d2 ((l : Int) / 256 % 256) ((l : Int) % 256) [] _ (by omega) (by omega) (by omega) ?_).mono ?_
              (first | exact S2'.out | exact (S2'.out.kept hk5 (by simp) : Rd W5 B2 (put2 (l : Int))))
              rintro e w' ⟨rfl, k', rfl⟩
              rw [hll]
              refine hK.out _ _ trivial (fun hHeld => ?_)
              clear hK K
              refine wpAnyH_take (i := 7) (v := ?_) rfl (by kernel_rfl) (by kernel_rfl) (by kernel_rfl) (fun _ _ _ h => h) (Or.inl ⟨by rfl, ?_⟩) hHeld ?_
              rotate_left
              · (intro w' hSw; (try dsimp only at hSw); go_simp <;> with_reducible rfl)
              simp only [List.getElem_toArray, List.getElem_cons_succ, List.getElem_cons_zero, Act.put, List.setIfInBounds_toArray, List.set_cons_zero, List.set_cons_succ]
              refine wpAnyH_ready (rs := [8]) (by kernel_rfl) (by simp) ?_
              refine AllReadyH.cons rfl (fun K hK => ?_) AllReadyH.nil
              go_simp
              refine (fun (hs : ∀ W5 : World, W5.heap[wr.heap.size]? = some (.cells #[.int .u16 0, .int .u16 0, .slice none 0 0] 105 (0, 0)) → Kept [] wr W5 → K _ W5) => hs _ ?_ ?_) (fun W5 hb5 hk5 => ?_)
              · exact heap_at _ _ _ (by first | rfl | simp)
              · repeat (first | exact Kept.refl _ _ | apply Kept.drewN | apply Kept.drew | apply Kept.alloc)
              have e0 : W5.cell? ⟨wr.heap.size, 0, none⟩ = some (.int .u16 0) := (blk_cell hb5 0).trans rfl
              have e1 : W5.cell? ⟨wr.heap.size, 1, none⟩ = some (.int .u16 0) := (blk_cell hb5 1).trans rfl
              have e2 : W5.cell? ⟨wr.heap.size, 2, none⟩ = some (.slice none 0 0) := (blk_cell hb5 2).trans rfl
              have f0 := blk_free hb5 0
              have f1 := blk_free hb5 1
              have f2 := blk_free hb5 2
              refine hK.out _ _ trivial (fun hHeld => ?_)
              clear hK K
              refine wpAnyH_ready (rs := [9]) (by kernel_rfl) (by simp) ?_
              refine AllReadyH.cons rfl (fun K hK => ?_) AllReadyH.nil
              go_simp
              refine hK.out _ _ trivial (fun hHeld => ?_)
              clear hK K
              refine wpAnyH_done (by kernel_rfl) ?_ _
              clear e0 e1 e2 f0 f1 f2
              go_wp2_with fail
              go_meet
              refine ⟨rfl, Lib.hid ?_, Lib.hid (Kept.toBelow ?_)⟩
              · exact blk_set (blk_set (blk_set hb5 0 _) 1 _) 2 _
              · repeat (first | exact hk5 | apply Kept.drewN | apply Kept.drew | (refine Kept.setCell ?_ (by simp) _))
            · go_simp
              refine (fun (hs : ∀ W5 : World, W5.heap[wr.heap.size]? = some (.cells #[.int .u16 0, .int .u16 0, .slice none 0 0] 105 (0, 0)) → Kept [] wr W5 → K _ W5) => hs _ ?_ ?_) (fun W5 hb5 hk5 => ?_)
              · exact heap_at _ _ _ (by first | rfl | simp)
              · repeat (first | exact Kept.refl _ _ | apply Kept.drewN | apply Kept.drew | apply Kept.alloc)
              have e0 : W5.cell? ⟨wr.heap.size, 0, none⟩ = some (.int .u16 0) := (blk_cell hb5 0).trans rfl
              have e1 : W5.cell? ⟨wr.heap.size, 1, none⟩ = some (.int .u16 0) := (blk_cell hb5 1).trans rfl
              have e2 : W5.cell? ⟨wr.heap.size, 2, none⟩ = some (.slice none 0 0) := (blk_cell hb5 2).trans rfl
              have f0 := blk_free hb5 0
              have f1 := blk_free hb5 1
              have f2 := blk_free hb5 2
              refine hK.out _ _ trivial (fun hHeld => ?_)
              clear hK K
              refine wpAnyH_ready (rs := [6]) (by kernel_rfl) (by simp) ?_
              refine AllReadyH.cons rfl (fun K hK => ?_) AllReadyH.nil
              go_simp
              go_at_call_of 51 (Value.slice B2 2 d2)
              refine (sbe16_rd B2 2 d2 ((l : Int) / 256 % 256) ((l : Int) % 256) [] _ (by omega) (by omega) (by omega) ?_).mono ?_
              (first | exact S2'.out | exact (S2'.out.kept hk5 (by simp) : Rd W5 B2 (put2 (l : Int))))
              rintro e w' ⟨rfl, k', rfl⟩
              rw [hll]
              refine hK.out _ _ trivial (fun hHeld => ?_)
              clear hK K
              refine wpAnyH_take (i := 7) (v := ?_) rfl (by kernel_rfl) (by kernel_rfl) (by kernel_rfl) (fun _ _ _ h => h) (Or.inl ⟨by rfl, ?_⟩) hHeld ?_
              rotate_left
              · (intro w' hSw; (try dsimp only at hSw); go_simp <;> with_reducible rfl)
              simp only [List.getElem_toArray, List.getElem_cons_succ, List.getElem_cons_zero, Act.put, List.setIfInBounds_toArray, List.set_cons_zero, List.set_cons_succ]
              refine wpAnyH_ready (rs := [9]) (by kernel_rfl) (by simp) ?_
              refine AllReadyH.cons rfl (fun K hK => ?_) AllReadyH.nil
              go_simp
              refine hK.out _ _ trivial (fun hHeld => ?_)
              clear hK K
              refine wpAnyH_done (by kernel_rfl) ?_ _
              clear e0 e1 e2 f0 f1 f2
              go_wp2_with fail
              go_meet
              refine ⟨rfl, Lib.hid ?_, Lib.hid (Kept.toBelow ?_)⟩
              · exact blk_set (blk_set (blk_set hb5 0 _) 1 _) 2 _
              · repeat (first | exact hk5 | apply Kept.drewN | apply Kept.drew | (refine Kept.setCell ?_ (by simp) _))
          · go_simp
            refine (fun (hs : ∀ W5 : World, W5.heap[wr.heap.size]? = some (.cells #[.int .u16 0, .int .u16 0, .slice none 0 0] 105 (0, 0)) → Kept [] wr W5 → K _ W5) => hs _ ?_ ?_) (fun W5 hb5 hk5 => ?_)
            · exact heap_at _ _ _ (by first | rfl | simp)
            · repeat (first | exact Kept.refl _ _ | apply Kept.drewN | apply Kept.drew | apply Kept.alloc)
            have e0 : W5.cell? ⟨wr.heap.size, 0, none⟩ = some (.int .u16 0) := (blk_cell hb5 0).trans rfl
            have e1 : W5.cell? ⟨wr.heap.size, 1, none⟩ = some (.int .u16 0) := (blk_cell hb5 1).trans rfl
            have e2 : W5.cell? ⟨wr.heap.size, 2, none⟩ = some (.slice none 0 0) := (blk_cell hb5 2).trans rfl
            have f0 := blk_free hb5 0
            have f1 := blk_free hb5 1
            have f2 := blk_free hb5 2
            refine hK.out _ _ trivial (fun hHeld => ?_)
            clear hK K
            refine wpAnyH_ready (rs := [3]) (by kernel_rfl) (by simp) ?_
            refine AllReadyH.cons rfl (fun K hK => ?_) AllReadyH.nil
            go_simp
            go_at_call 56
            refine (compat_any t _ (by omega)).mono ?_
            rintro e w' ⟨rfl, rfl⟩
            refine hK.out _ _ trivial (fun hHeld => ?_)
            clear hK K
            refine wpAnyH_ready (rs := [6]) (by kernel_rfl) (by simp) ?_
            refine AllReadyH.cons rfl (fun K hK => ?_) AllReadyH.nil
            go_simp
            go_at_call_of 51 (Value.slice B2 2 d2)
            refine (sbe16_rd B2 2 d2 ((l : Int) / 256 % 256) ((l : Int) % 256) [] _ (by omega) (by omega) (by omega) ?_).mono ?_
            (first | exact S2'.out | exact (S2'.out.kept hk5 (by simp) : Rd W5 B2 (put2 (l : Int))))
            rintro e w' ⟨rfl, k', rfl⟩
            rw [hll]
            refine hK.out _ _ trivial (fun hHeld => ?_)
            clear hK K
            refine wpAnyH_take (i := 7) (v := ?_) rfl (by kernel_rfl) (by kernel_rfl) (by kernel_rfl) (fun _ _ _ h => h) (Or.inl ⟨by rfl, ?_⟩) hHeld ?_
            rotate_left
            · (intro w' hSw; (try dsimp only at hSw); go_simp <;> with_reducible rfl)
            simp only [List.getElem_toArray, List.getElem_cons_succ, List.getElem_cons_zero, Act.put, List.setIfInBounds_toArray, List.set_cons_zero, List.set_cons_succ]
            refine wpAnyH_ready (rs := [9]) (by kernel_rfl) (by simp) ?_
            refine AllReadyH.cons rfl (fun K hK => ?_) AllReadyH.nil
            go_simp
            refine hK.out _ _ trivial (fun hHeld => ?_)
            clear hK K
            refine wpAnyH_done (by kernel_rfl) ?_ _
            clear e0 e1 e2 f0 f1 f2
            go_wp2_with fail
            go_meet
            refine ⟨rfl, Lib.hid ?_, Lib.hid (Kept.toBelow ?_)⟩
            · exact blk_set (blk_set (blk_set hb5 0 _) 1 _) 2 _
            · repeat (first | exact hk5 | apply Kept.drewN | apply Kept.drew | (refine Kept.setCell ?_ (by simp) _))
        · go_simp
          refine (fun (hs : ∀ W5 : World, W5.heap[wr.heap.size]? = some (.cells #[.int .u16 0, .int .u16 0, .slice none 0 0] 105 (0, 0)) → Kept [] wr W5 → K _ W5) => hs _ ?_ ?_) (fun W5 hb5 hk5 => ?_)
          · exact heap_at _ _ _ (by first | rfl | simp)
          · repeat (first | exact Kept.refl _ _ | apply Kept.drewN | apply Kept.drew | apply Kept.alloc)
          have e0 : W5.cell? ⟨wr.heap.size, 0, none⟩ = some (.int .u16 0) := (blk_cell hb5 0).trans rfl
          have e1 : W5.cell? ⟨wr.heap.size, 1, none⟩ = some (.int .u16 0) := (blk_cell hb5 1).trans rfl
          have e2 : W5.cell? ⟨wr.heap.size, 2, none⟩ = some (.slice none 0 0) := (blk_cell hb5 2).trans rfl
          have f0 := blk_free hb5 0
          have f1 := blk_free hb5 1
          have f2 := blk_free hb5 2
          refine hK.out _ _ trivial (fun hHeld => ?_)
          clear hK K
          refine wpAnyH_ready (rs := [2]) (by kernel_rfl) (by simp) ?_
          refine AllReadyH.cons rfl (fun K hK => ?_) AllReadyH.nil
          go_simp
          go_at_call_of 51 (Value.slice B0 2 cB)
          refine (sbe16_rd B0 2 cB (t / 256 % 256) (t % 256) [] _ (by omega) (by omega) (by omega) ?_).mono ?_
          (first | exact S0'.out | exact (S0'.out.kept hk5 (by simp) : Rd W5 B0 (put2 t)))
          rintro e w' ⟨rfl, k, rfl⟩
          rw [htt]
          refine hK.out _ _ trivial (fun hHeld => ?_)
          clear hK K
          refine wpAnyH_ready (rs := [3]) (by kernel_rfl) (by simp) ?_
          refine AllReadyH.cons rfl (fun K hK => ?_) AllReadyH.nil
          go_simp
          go_at_call 56
          refine (compat_any t _ (by omega)).mono ?_
          rintro e w' ⟨rfl, rfl⟩
          refine hK.out _ _ trivial (fun hHeld => ?_)
          clear hK K
          refine wpAnyH_ready (rs := [6]) (by kernel_rfl) (by simp) ?_
          refine AllReadyH.cons rfl (fun K hK => ?_) AllReadyH.nil
          go_simp
          go_at_call_of 51 (Value.slice B2 2 d2)
          refine (sbe16_rd B2 2 d2 ((l : Int) / 256 % 256) ((l : Int) % 256) [] _ (by omega) (by omega) (by omega) ?_).mono ?_
          (first | exact S2'.out | exact (S2'.out.kept hk5 (by simp) : Rd W5 B2 (put2 (l : Int))))
          rintro e w' ⟨rfl, k', rfl⟩
          rw [hll]
          refine hK.out _ _ trivial (fun hHeld => ?_)
          clear hK K
          refine wpAnyH_take (i := 7) (v := ?_) rfl (by kernel_rfl) (by kernel_rfl) (by kernel_rfl) (fun _ _ _ h => h) (Or.inl ⟨by rfl, ?_⟩) hHeld ?_
          rotate_left
          · (intro w' hSw; (try dsimp only at hSw); go_simp <;> with_reducible rfl)
          simp only [List.getElem_toArray, List.getElem_cons_succ, List.getElem_cons_zero, Act.put, List.setIfInBounds_toArray, List.set_cons_zero, List.set_cons_succ]
          refine wpAnyH_ready (rs := [9]) (by kernel_rfl) (by simp) ?_
          refine AllReadyH.cons rfl (fun K hK => ?_) AllReadyH.nil
          go_simp
          refine hK.out _ _ trivial (fun hHeld => ?_)
          clear hK K
          refine wpAnyH_done (by kernel_rfl) ?_ _
          clear e0 e1 e2 f0 f1 f2
          go_wp2_with fail
          go_meet
          refine ⟨rfl, Lib.hid ?_, Lib.hid (Kept.toBelow ?_)⟩
          · exact blk_set (blk_set (blk_set hb5 0 _) 1 _) 2 _
          · repeat (first | exact hk5 | apply Kept.drewN | apply Kept.drew | (refine Kept.setCell ?_ (by simp) _))
      case rest =>
      obtain ⟨rfl, hb5, hB5⟩ := hcut
      have HGc := Lib.hid (HG.out.below hB5.out)
      have HKc : Hid (Kept [g] w wc) := Lib.hid (HK.out.then_below (hB5.out.mono HK.out.size))
      have hsw : w.heap.size ≤ wr.heap.size := HK.out.size
      have hgn : ¬ wr.heap.size = g := by omega
      have hgn' : ¬ g = wr.heap.size := by omega
      have d0 : wc.cell? ⟨wr.heap.size, 0, none⟩ = some (.int .u16 t) := (blk_cell hb5.out 0).trans rfl
      have d1 : wc.cell? ⟨wr.heap.size, 1, none⟩ = some (.int .u16 l) := (blk_cell hb5.out 1).trans rfl
      have d2' : wc.cell? ⟨wr.heap.size, 2, none⟩ = some (.slice none 0 0) := (blk_cell hb5.out 2).trans rfl
      have d17 := HGc.out.facts.2.2.2.2.2
      have f2 := blk_free hb5.out 2
      have hpp : decide ((p : Int) < p) = false := decide_eq_false (by omega)
      go_upto_region 40 with (go_at_call 57; refine (spad_any _ l _ rfl (by omega)).mono ?_; rintro e w' ⟨rfl, rfl⟩; rw [HPP.out])
      obtain ⟨W6, hW6⟩ : ∃ W6, W6 = wc.setCell ⟨wr.heap.size, 2, none⟩ (.slice B4 l cD) := ⟨_, rfl⟩
      have hb6 : W6.heap[wr.heap.size]? = some (.cells #[.int .u16 t, .int .u16 l, .slice B4 l cD] 105 (0, 0)) := by rw [hW6]; exact blk_set hb5.out 2 _
      have hg6 : MsgBlk W6 g y x (4 + (p : Int)) id (.slice none 0 0) (.slice A n c) := by rw [hW6]; exact ⟨HGc.out.1, blk_far HGc.out.2 hgn' _⟩
      have hk6 : Kept [g] w W6 := by rw [hW6]; exact HKc.out.setCell (.inr hsw) _
      rw [← hW6]
      clear hW6 d0 d1 d2' d17 f2 HGc HKc hb5 hB5
      have R4' : Rd W6 B4 v := S4.out.kept hk6 (fun a e => by simpa using HN4.out a e)
      have c15 : W6.cell? ⟨g, 15, none⟩ = some (.slice none 0 0) := hg6.facts.2.2.2.1
      refine wp_region_held_drew (S := fun w' => w'.cell? ⟨wr.heap.size, 0, none⟩ = some (.int .u16 t) ∧ w'.cell? ⟨wr.heap.size, 1, none⟩ = some (.int .u16 l) ∧ w'.cell? ⟨wr.heap.size, 2, none⟩ = some (.slice B4 l cD)) (by kernel_rfl) ⟨(blk_cell hb6 0).trans rfl, (blk_cell hb6 1).trans rfl, (blk_cell hb6 2).trans rfl⟩ (fun hHeld => ?_)
      refine wpAnyH_take (i := 0) (v := ?_) rfl (by kernel_rfl) (by kernel_rfl) (by kernel_rfl) (fun _ _ _ h => h) (Or.inl ⟨by rfl, ?_⟩) hHeld ?_
      rotate_left
      · (intro w' hSw; (try dsimp only at hSw); go_simp <;> with_reducible rfl)
      simp only [List.getElem_toArray, List.getElem_cons_succ, List.getElem_cons_zero, Act.put, List.setIfInBounds_toArray, List.set_cons_zero, List.set_cons_succ]
      refine wpAnyH_take (i := 1) (v := ?_) rfl (by kernel_rfl) (by kernel_rfl) (by kernel_rfl) (fun _ _ _ h => h) (Or.inl ⟨by rfl, ?_⟩) hHeld ?_
      rotate_left
      · (intro w' hSw; (try dsimp only at hSw); go_simp <;> with_reducible rfl)
      simp only [List.getElem_toArray, List.getElem_cons_succ, List.getElem_cons_zero, Act.put, List.setIfInBounds_toArray, List.set_cons_zero, List.set_cons_succ]
      refine wpAnyH_take (i := 2) (v := ?_) rfl (by kernel_rfl) (by kernel_rfl) (by kernel_rfl) (fun _ _ _ h => h) (Or.inl ⟨by rfl, ?_⟩) hHeld ?_
      rotate_left
      · (intro w' hSw; (try dsimp only at hSw); go_simp <;> with_reducible rfl)
      simp only [List.getElem_toArray, List.getElem_cons_succ, List.getElem_cons_zero, Act.put, List.setIfInBounds_toArray, List.set_cons_zero, List.set_cons_succ]
      refine wpAnyH_take (i := 3) (v := ?_) rfl (by kernel_rfl) (by kernel_rfl) (by kernel_rfl) (fun _ _ _ h => h) (Or.inl ⟨by rfl, ?_⟩) hHeld ?_
      rotate_left
      · (intro w' hSw; (try dsimp only at hSw); go_simp <;> with_reducible rfl)
      simp only [List.getElem_toArray, List.getElem_cons_succ, List.getElem_cons_zero, Act.put, List.setIfInBounds_toArray, List.set_cons_zero, List.set_cons_succ]
      refine wpAnyH_take (i := 5) (v := ?_) rfl (by kernel_rfl) (by kernel_rfl) (by kernel_rfl) (fun _ _ _ h => h) (Or.inl ⟨by rfl, ?_⟩) hHeld ?_
      rotate_left
      · (intro w' hSw; (try dsimp only at hSw); go_simp <;> with_reducible rfl)
      simp only [List.getElem_toArray, List.getElem_cons_succ, List.getElem_cons_zero, Act.put, List.setIfInBounds_toArray, List.set_cons_zero, List.set_cons_succ]
      refine wpAnyH_ready (rs := [4, 6]) (by kernel_rfl) (by simp) ?_
      refine AllReadyH.cons rfl (fun K hK => ?_) (AllReadyH.cons rfl (fun K hK => ?_) AllReadyH.nil)
      · go_simp
        refine hK.out _ _ ⟨(blk_cell hb6 0).trans rfl, (blk_cell hb6 1).trans rfl, (blk_cell hb6 2).trans rfl⟩ (fun hHeld => ?_)
        clear hK K
        refine wpAnyH_ready (rs := [6]) (by kernel_rfl) (by simp) ?_
        refine AllReadyH.cons rfl (fun K hK => ?_) AllReadyH.nil
        go_simp
        obtain ⟨W7, hW7⟩ : ∃ W7, W7 = (W6.alloc (.cells #[.int .u16 t, .int .u16 l, .slice B4 l cD] 105)).drew := ⟨_, rfl⟩
        have hB7 : Below W6.heap.size W6 W7 := by rw [hW7]; exact (Kept.toBelow (((Kept.refl [] W6).alloc _).drew))
        have hb7 : W7.heap[W6.heap.size]? = some (.cells #[.int .u16 t, .int .u16 l, .slice B4 l cD] 105 (0, 0)) := by rw [hW7]; exact heap_alloc_new W6 _
        have hg7 := hg6.below hB7
        have hb7' := blk_below hb6 hB7
        have c15' := hg7.facts.2.2.2.1
        rw [← hW7]
        clear hW7
        refine hK.out _ _ ⟨(blk_cell hb7' 0).trans rfl, (blk_cell hb7' 1).trans rfl, (blk_cell hb7' 2).trans rfl⟩ (fun hHeld => ?_)
        clear hK K
        refine wpAnyH_ready (rs := [7]) (by kernel_rfl) (by simp) ?_
        refine AllReadyH.cons rfl (fun K hK => ?_) AllReadyH.nil
        refine step_app_raw 165 rfl W7.heap.size W7 rfl (.tmp 162) (.tmp 164) rfl (.slice none 0 0) 0 W6.heap.size [] rfl rfl (.int .u16 t) (.int .u16 l) (.slice B4 l cD) (World.ownsRow_nil _ _ _ _) ((blk_cell hb7 0).trans rfl) ((blk_cell hb7 1).trans rfl) ((blk_cell hb7 2).trans rfl) rfl rfl rfl (Nat.le_refl _) (by omega) ?_
        intro v8 w8 hown8 hgr8
        simp only [Act.put, List.setIfInBounds_toArray, List.set_cons_zero, List.set_cons_succ]
        obtain ⟨ab, cap, rfl, hcap, hab1, hab2, e0, e1, e2⟩ := raw_cells hown8
        have hk8 : Kept [] W7 w8 := Kept.of_grown hgr8 (fun b e => by cases e)
        have hB8 : Below W6.heap.size W6 w8 := below_then hB7 hk8.toBelow
        have hg8 := hg6.below hB8
        have hb8 := blk_below hb6 hB8
        have c15 := hg8.facts.2.2.2.1
        have f15 := hg8.free 15
        have hga : ab ≠ g := by have := hg6.lt; have := hB7.size; omega
        refine hK.out _ _ ⟨(blk_cell hb8 0).trans rfl, (blk_cell hb8 1).trans rfl, (blk_cell hb8 2).trans rfl⟩ (fun hHeld => ?_)
        clear hK K
        refine wpAnyH_take (i := 8) (v := ?_) rfl (by kernel_rfl) (by kernel_rfl) (by kernel_rfl) (fun _ _ _ h => h) (Or.inl ⟨by rfl, ?_⟩) hHeld ?_
        rotate_left
        · (intro w' hSw; (try dsimp only at hSw); go_simp <;> with_reducible rfl)
        simp only [List.getElem_toArray, List.getElem_cons_succ, List.getElem_cons_zero, Act.put, List.setIfInBounds_toArray, List.set_cons_zero, List.set_cons_succ]
        refine wpAnyH_take (i := 9) (v := ?_) rfl (by kernel_rfl) (by kernel_rfl) (by kernel_rfl) (fun _ _ _ h => h) (Or.inl ⟨by rfl, ?_⟩) hHeld ?_
        rotate_left
        · (intro w' hSw; (try dsimp only at hSw); go_simp <;> with_reducible rfl)
        simp only [List.getElem_toArray, List.getElem_cons_succ, List.getElem_cons_zero, Act.put, List.setIfInBounds_toArray, List.set_cons_zero, List.set_cons_succ]
        refine wpAnyH_ready (rs := [10]) (by kernel_rfl) (by simp) ?_
        refine AllReadyH.cons rfl (fun K hK => ?_) AllReadyH.nil
        go_simp
        have hb9 := blk_far (p := ⟨g, 15, none⟩) hb8 hgn (.slice (some ⟨ab, 0, none⟩) 1 cap)
        refine hK.out _ _ ⟨(blk_cell hb9 0).trans rfl, (blk_cell hb9 1).trans rfl, (blk_cell hb9 2).trans rfl⟩ (fun hHeld => ?_)
        clear hK K hHeld
        refine wpAnyH_done (by kernel_rfl) ?_ _
        have HE := Lib.hid (hg8.set15 (.slice (some ⟨ab, 0, none⟩) 1 cap))
        have hne : (⟨g, 15, none⟩ : Addr).block ≠ ab := fun e => hga e.symm
        have HX := Lib.hid (And.intro ((World.cell?_setCell_far w8 ⟨g, 15, none⟩ ⟨ab, 0, none⟩ (.slice (some ⟨ab, 0, none⟩) 1 cap) hne).trans e0) (And.intro ((World.cell?_setCell_far w8 ⟨g, 15, none⟩ ⟨ab, 1, none⟩ (.slice (some ⟨ab, 0, none⟩) 1 cap) hne).trans e1) ((World.cell?_setCell_far w8 ⟨g, 15, none⟩ ⟨ab, 2, none⟩ (.slice (some ⟨ab, 0, none⟩) 1 cap) hne).trans e2)))
        have HR9 := Lib.hid ((R4'.below hB8).setCell ⟨g, 15, none⟩ (.slice (some ⟨ab, 0, none⟩) 1 cap) (fun a e => by simpa using HN4.out a e))
        have HK9 : Hid (Kept [g] w (w8.setCell ⟨g, 15, none⟩ (.slice (some ⟨ab, 0, none⟩) 1 cap))) := Lib.hid ((hk6.then_below (hB8.mono hk6.size)).setCell (.inl (by simp)) _)
        clear hb9 hb8 hg8 hB8 c15 f15 e0 e1 e2 hown8 hgr8 hk8 hb7 hb7' hg7 hB7 hg6 hb6 hk6 R4' c15'
        go_wp2_with fail
        go_roundg 0
        case measure => omega
        case rel => exact .inr ⟨rfl, rfl, Lib.hid ⟨⟨_, _, _, _, ab, cap, B4, l, cD, l, HE.out, hcap, HX.out.1, HX.out.2.1, HX.out.2.2, HV.out, by omega, HR9.out⟩, HK9.out⟩⟩
      · go_simp
        obtain ⟨W7, hW7⟩ : ∃ W7, W7 = (W6.alloc (.cells #[.int .u16 t, .int .u16 l, .slice B4 l cD] 105)).drew := ⟨_, rfl⟩
        have hB7 : Below W6.heap.size W6 W7 := by rw [hW7]; exact (Kept.toBelow (((Kept.refl [] W6).alloc _).drew))
        have hb7 : W7.heap[W6.heap.size]? = some (.cells #[.int .u16 t, .int .u16 l, .slice B4 l cD] 105 (0, 0)) := by rw [hW7]; exact heap_alloc_new W6 _
        have hg7 := hg6.below hB7
        have hb7' := blk_below hb6 hB7
        have c15' := hg7.facts.2.2.2.1
        rw [← hW7]
        clear hW7
        refine hK.out _ _ ⟨(blk_cell hb7' 0).trans rfl, (blk_cell hb7' 1).trans rfl, (blk_cell hb7' 2).trans rfl⟩ (fun hHeld => ?_)
        clear hK K
        refine wpAnyH_ready (rs := [4]) (by kernel_rfl) (by simp) ?_
        refine AllReadyH.cons rfl (fun K hK => ?_) AllReadyH.nil
        go_simp
        refine hK.out _ _ ⟨(blk_cell hb7' 0).trans rfl, (blk_cell hb7' 1).trans rfl, (blk_cell hb7' 2).trans rfl⟩ (fun hHeld => ?_)
        clear hK K
        refine wpAnyH_ready (rs := [7]) (by kernel_rfl) (by simp) ?_
        refine AllReadyH.cons rfl (fun K hK => ?_) AllReadyH.nil
        refine step_app_raw 165 rfl W7.heap.size W7 rfl (.tmp 162) (.tmp 164) rfl (.slice none 0 0) 0 W6.heap.size [] rfl rfl (.int .u16 t) (.int .u16 l) (.slice B4 l cD) (World.ownsRow_nil _ _ _ _) ((blk_cell hb7 0).trans rfl) ((blk_cell hb7 1).trans rfl) ((blk_cell hb7 2).trans rfl) rfl rfl rfl (Nat.le_refl _) (by omega) ?_
        intro v8 w8 hown8 hgr8
        simp only [Act.put, List.setIfInBounds_toArray, List.set_cons_zero, List.set_cons_succ]
        obtain ⟨ab, cap, rfl, hcap, hab1, hab2, e0, e1, e2⟩ := raw_cells hown8
        have hk8 : Kept [] W7 w8 := Kept.of_grown hgr8 (fun b e => by cases e)
        have hB8 : Below W6.heap.size W6 w8 := below_then hB7 hk8.toBelow
        have hg8 := hg6.below hB8
        have hb8 := blk_below hb6 hB8
        have c15 := hg8.facts.2.2.2.1
        have f15 := hg8.free 15
        have hga : ab ≠ g := by have := hg6.lt; have := hB7.size; omega
        refine hK.out _ _ ⟨(blk_cell hb8 0).trans rfl, (blk_cell hb8 1).trans rfl, (blk_cell hb8 2).trans rfl⟩ (fun hHeld => ?_)
        clear hK K
        refine wpAnyH_take (i := 8) (v := ?_) rfl (by kernel_rfl) (by kernel_rfl) (by kernel_rfl) (fun _ _ _ h => h) (Or.inl ⟨by rfl, ?_⟩) hHeld ?_
        rotate_left
        · (intro w' hSw; (try dsimp only at hSw); go_simp <;> with_reducible rfl)
        simp only [List.getElem_toArray, List.getElem_cons_succ, List.getElem_cons_zero, Act.put, List.setIfInBounds_toArray, List.set_cons_zero, List.set_cons_succ]
        refine wpAnyH_take (i := 9) (v := ?_) rfl (by kernel_rfl) (by kernel_rfl) (by kernel_rfl) (fun _ _ _ h => h) (Or.inl ⟨by rfl, ?_⟩) hHeld ?_
        rotate_left
        · (intro w' hSw; (try dsimp only at hSw); go_simp <;> with_reducible rfl)
        simp only [List.getElem_toArray, List.getElem_cons_succ, List.getElem_cons_zero, Act.put, List.setIfInBounds_toArray, List.set_cons_zero, List.set_cons_succ]
        refine wpAnyH_ready (rs := [10]) (by kernel_rfl) (by simp) ?_
        refine AllReadyH.cons rfl (fun K hK => ?_) AllReadyH.nil
        go_simp
        have hb9 := blk_far (p := ⟨g, 15, none⟩) hb8 hgn (.slice (some ⟨ab, 0, none⟩) 1 cap)
        refine hK.out _ _ ⟨(blk_cell hb9 0).trans rfl, (blk_cell hb9 1).trans rfl, (blk_cell hb9 2).trans rfl⟩ (fun hHeld => ?_)
        clear hK K hHeld
        refine wpAnyH_done (by kernel_rfl) ?_ _
        have HE := Lib.hid (hg8.set15 (.slice (some ⟨ab, 0, none⟩) 1 cap))
        have hne : (⟨g, 15, none⟩ : Addr).block ≠ ab := fun e => hga e.symm
        have HX := Lib.hid (And.intro ((World.cell?_setCell_far w8 ⟨g, 15, none⟩ ⟨ab, 0, none⟩ (.slice (some ⟨ab, 0, none⟩) 1 cap) hne).trans e0) (And.intro ((World.cell?_setCell_far w8 ⟨g, 15, none⟩ ⟨ab, 1, none⟩ (.slice (some ⟨ab, 0, none⟩) 1 cap) hne).trans e1) ((World.cell?_setCell_far w8 ⟨g, 15, none⟩ ⟨ab, 2, none⟩ (.slice (some ⟨ab, 0, none⟩) 1 cap) hne).trans e2)))
        have HR9 := Lib.hid ((R4'.below hB8).setCell ⟨g, 15, none⟩ (.slice (some ⟨ab, 0, none⟩) 1 cap) (fun a e => by simpa using HN4.out a e))
        have HK9 : Hid (Kept [g] w (w8.setCell ⟨g, 15, none⟩ (.slice (some ⟨ab, 0, none⟩) 1 cap))) := Lib.hid ((hk6.then_below (hB8.mono hk6.size)).setCell (.inl (by simp)) _)
        clear hb9 hb8 hg8 hB8 c15 f15 e0 e1 e2 hown8 hgr8 hk8 hb7 hb7' hg7 hB7 hg6 hb6 hk6 R4' c15'
        go_wp2_with fail
        go_roundg 0
        case measure => omega
        case rel => exact .inr ⟨rfl, rfl, Lib.hid ⟨⟨_, _, _, _, ab, cap, B4, l, cD, l, HE.out, hcap, HX.out.1, HX.out.2.1, HX.out.2.2, HV.out, by omega, HR9.out⟩, HK9.out⟩⟩
    · have dd5 : decide ((4 : Int) + p < 4 + p) = false := decide_eq_false (by omega)
      go_wp2_with fail
      go_ret
      exact ⟨rfl, HF.out.1, HF.out.2⟩
end Go.Proofs.YthgghgejndncnaaGreat
