/- 'spec.Message'. -/
import Derived.Test.YthgghgejndncnaaValue
import Derived.Deep.MidRow
import Derived.Deep.LoopGhost
namespace Go.Proofs.Ythgghgejndncnaa
open Go.RowKit
set_option linter.unusedSimpArgs false
set_option linter.unusedVariables false

theorem rangeAt_blk {w : World} {g : Nat} {cs : List Value} {t : TypeId} {fr : Nat × Nat} (h : w.heap[g]? = some (.cells cs.toArray t fr)) : w.rangeAt g 0 cs := fun j v hv => by
  rw [blk_cell h, Nat.zero_add, List.getElem?_toArray]
  exact hv

/-- an attribute in a message -/
def attrB (t : Int) (v : List Int) : List Int := put2 t ++ put2 v.length ++ v ++ List.replicate (pad4 (4 + v.length) - (4 + v.length)) 0
/-- a message with one attribute -/
def msgB (t : Int) (id v : List Int) : List Int := [0, 1] ++ put2 (attrB t v).length ++ [33, 18, 164, 66] ++ id ++ attrB t v
theorem attrB_length (t : Int) (v : List Int) : (attrB t v).length = pad4 (4 + v.length) := by simp [attrB, put2, pad4]; omega
theorem typeB_rng (k : Int) : 0 ≤ typeB k ∧ typeB k ≤ 255 := by unfold typeB; repeat' split <;> omega

set_option maxRecDepth 100000 in
set_option maxHeartbeats 4000000 in
theorem sMessage_any (k : Int) (id : List Int) (N : Int) (aA : Option Addr) (an ac : Nat) (ax : List Int) (P : Int) (dA : Option Addr) (dn dc : Nat) (dx : List Int) (w : World) (hk : 0 ≤ k ∧ k ≤ 10) (hid : id.length = 12) (hN : 0 ≤ N ∧ N ≤ 4294967295)
    (ha : ax.length = an) (hac : an ≤ ac) (hRa : Rd w aA ax) (hd : dx.length = dn) (hdc : dn ≤ dc) (hRd : Rd w dA dx) (h23 : k = 2 ∨ k = 3 → (0 ≤ P ∧ P ≤ 65535) ∧ (an = 4 ∨ an = 16)) (hl : (valB k N ax P dx id).length ≤ 1000) :
    Calls Try.prog 20 #[.int .i64 k, idV id, atV N aA an ac P dA dn dc] w fun e w' => ∃ v, e = .returned v ∧ w'.ownsRow w.heap.size 5 1 v (msgB (typeB k) id (valB k N ax P dx id)).length (nums (msgB (typeB k) id (valB k N ax P dx id))) ∧ Below w.heap.size w w' := by
  have HT0 := blk_alloc (heap_alloc_new w (.cells (nums id).toArray 31)) (.cells #[.int .u32 N, .slice aA an ac, .int .i64 P, .slice dA dn dc] 37)
  have HT := Lib.hid HT0
  have HI := Lib.hid (rangeAt_blk HT0)
  have HS : Hid ((Try.prog.info? 31).map (·.size) = some (nums id).length) := Lib.hid (by rw [nums_length, hid]; kernel_rfl)
  have HRa := Lib.hid ((hRa.alloc (.cells (nums id).toArray 31)).alloc (.cells #[.int .u32 N, .slice aA an ac, .int .i64 P, .slice dA dn dc] 37))
  have HRd := Lib.hid ((hRd.alloc (.cells (nums id).toArray 31)).alloc (.cells #[.int .u32 N, .slice aA an ac, .int .i64 P, .slice dA dn dc] 37))
  have HA := Lib.hid ha
  have HD := Lib.hid hd
  have HD12 := Lib.hid hid
  have H23 := Lib.hid h23
  clear HT0 hRa hRd ha hd hid h23
  have htk := typeB_rng k
  have hwt : IntKind.u32.wrap (typeB k) = typeB k := wraps_u32 _ (by omega) (by omega)
  generalize hT : typeB k = T at *
  have HTK := Lib.hid hT
  clear hT
  go_enter Try.func20, Try.ntmps20
  go_upto_region 2 with (first
    | (refine wpList_load_mid rfl 31 (.tmp 4) rfl w.heap.size 0 rfl (nums id) _ HI.out Try.underlying31 rfl HS.out ?_)
    | (go_at_call 25; refine (value_any k id N aA an ac ax P dA dn dc dx _ hk HD12.out hN HA.out hac ?_ HD.out hdc ?_ H23.out).mono ?_; exact HRa.out; exact HRd.out; rintro e w1 ⟨v1, rfl, hv1, hB1⟩))
  obtain ⟨A1, n, c1, rfl, hn1, hc1, hR1⟩ := hv1
  have HT1 := Lib.hid (blk_below HT.out hB1)
  have HBw : Hid (Below w.heap.size w w1) := Lib.hid (below_then (below_then (below_alloc _ _) (below_alloc _ _)) hB1)
  have hsz : w.heap.size + 2 ≤ w1.heap.size := by have := hB1.size; simp at this; omega
  clear HT HI HRa HRd HA HD H23 hB1
  have HR1 := Lib.hid hR1
  have HN := Lib.hid hn1
  have HL : Hid (n ≤ 1000) := Lib.hid (by omega)
  clear hR1 hl
  generalize hvb : valB k N ax P dx id = vb at *
  have HVB := Lib.hid hvb
  clear hvb hn1
  have hn1000 : n ≤ 1000 := HL.out
  have hwn : IntKind.u32.wrap (n : Int) = n := wraps_u32 _ (by omega) (by omega)
  go_wp2_with (first
    | (go_at_call 39; refine (sType_any k _ hk).mono ?_; rintro e w2 ⟨rfl, hB2⟩; rw [HTK.out])
    | (go_at_call_of 27 (Value.int .u32 T); refine (put2_new _ _ (by omega)).mono ?_; rintro e w3 ⟨g3, rfl, hn3⟩)
    | (go_at_call_of 27 (Value.int .u32 (n : Int)); refine (put2_new _ _ (by omega)).mono ?_; rintro e w4 ⟨g4, rfl, hn4⟩)
    | (at_builtin; refine wp_app Try.underlying24 w1.heap.size w4 rfl (.tmp 17) (.tmp 21) rfl (.slice (some ⟨g3, 0, none⟩) 2 2) (put2 T) (put2 n) 2 2 (some ⟨g4, 0, none⟩) 2 rfl rfl rfl rfl (own_below (own_lower hn3.2.2.1 hB2.size) hn4.2.2.2.2) hn4.2.2.2.1 (below_then (below_then hB2 hn3.2.2.2.2) hn4.2.2.2.2).size (by omega) w1 (below_then (below_then hB2 hn3.2.2.2.2) hn4.2.2.2.2) ?_; intro v5 w5 hown5 hB5 hg5)
    | (at_builtin; refine wp_app Try.underlying24 w1.heap.size w5 rfl (.tmp 23) (.tmp 24) rfl v5 (put2 T ++ put2 n) vb (2 + 2) n A1 c1 rfl HN.out rfl rfl hown5 (HR1.out.below hB5) hB5.size (by omega) w1 hB5 ?_; intro v6 w6 hown6 hB6 hg6))
  clear hB2 hn3 hn4 hown5 hB5 hg5 hg6
  have HO := Lib.hid hown6
  have HB := Lib.hid hB6
  clear hown6 hB6
  have hp : pad4 (4 + n) - (4 + n) ≤ 3 := by unfold pad4; omega
  have hp2 : (4 + n + (pad4 (4 + n) - (4 + n))) % 4 = 0 := by unfold pad4; omega
  have HE : Hid (attrB T vb = put2 T ++ put2 n ++ vb ++ List.replicate (pad4 (4 + n) - (4 + n)) 0) := by
    unfold attrB; rw [HN.out]; exact rfl
  have HEL : Hid ((attrB T vb).length = 4 + n + (pad4 (4 + n) - (4 + n))) := by
    have h : (attrB T vb).length = _ := attrB_length T vb
    rw [HN.out] at h
    exact Lib.hid (by rw [h]; unfold pad4; omega)
  generalize hpe : pad4 (4 + n) - (4 + n) = p at hp hp2 HE HEL
  clear hpe
  go_loopg [8] p (fun kq v5 wr => ∃ m : Nat, kq + m = p ∧ Hid (wr.ownsRow w1.heap.size 5 1 v5 (4 + n + m) (nums (put2 T ++ put2 n ++ vb ++ List.replicate m 0))) ∧ Hid (Below w1.heap.size w1 wr))
  case atStart => exact ⟨0, by omega, by simpa using HO, HB⟩
  case round =>
    obtain ⟨m, hm, hO, hB⟩ := hrel
    clear HO HB
    obtain ⟨hl5, A5, c5, rfl, hc5, hcm5, hR5⟩ := own_rd hO.out
    clear hl5 hR5
    by_cases hlt : m < p
    · have t0 : (((4 : Int) + n + m) % 4 == 0) = false := by rw [beq_eq_false_iff_ne]; omega
      have t1 : (((4 : Int) + n + m) % 4 != 0) = true := by rw [bne_iff_ne]; omega
      go_wp2_with (at_builtin; refine wp_app Try.underlying24 w1.heap.size (wr.alloc (.cells #[.int .u8 0] 5)) rfl (.tmp 30) (.tmp 31) rfl (.slice A5 (4 + n + m) c5) _ [0] (4 + n + m) 1 (some ⟨wr.heap.size, 0, none⟩) 1 (own_rd hO.out).1 rfl rfl rfl (hO.out.alloc _) (rd_new wr _ [0] rfl) (by have := hB.out.size; simp; omega) (by omega) w1 (hB.out.alloc hB.out.size _) ?_; intro v3 w3 hown3 hB3 hg3)
      go_roundg (gk - 1)
      case measure => omega
      case rel => exact ⟨m + 1, by omega, by rw [List.replicate_succ', ← List.append_assoc]; exact Lib.hid hown3, Lib.hid hB3⟩
    · obtain rfl : m = p := by omega
      have t0 : (((4 : Int) + n + m) % 4 == 0) = true := by rw [beq_iff_eq]; omega
      have t1 : (((4 : Int) + n + m) % 4 != 0) = false := by rw [bne_eq_false_iff_eq]; omega
      rw [← HE.out] at hO
      have hwl : IntKind.u32.wrap ((4 : Int) + n + m) = ((4 + n + m : Nat) : Int) := by rw [wraps_u32 _ (by omega) (by omega)]; omega
      go_upto_region 7 with (first
        | (go_at_call 27; refine (put2_new _ _ (by omega)).mono ?_; rintro e w7 ⟨g7, rfl, hn7⟩)
        | (at_builtin; refine wp_app Try.underlying24 wr.heap.size w7 rfl (.tmp 33) (.tmp 37) rfl (.slice (some ⟨wr.heap.size, 0, none⟩) 2 2) [0, 1] (put2 ((4 + n + m : Nat) : Int)) 2 2 (some ⟨g7, 0, none⟩) 2 rfl rfl rfl rfl (own_below (own_new wr _ _ [0, 1] rfl (Nat.le_refl _) (by simp)) hn7.2.2.2.2) hn7.2.2.2.1 (below_then (below_alloc _ _) hn7.2.2.2.2).size (by omega) wr (below_then (below_alloc _ _) hn7.2.2.2.2) ?_; intro v8 w8 hown8 hB8 hg8))
      obtain ⟨hl5, -, -, -, -, -, hR5'⟩ := own_rd hO.out
      have hR5 : Rd wr A5 (attrB T vb) := by
        obtain ⟨_, A', c', e, _, _, h⟩ := own_rd hO.out
        injection e with e1 e2 e3
        subst e1
        exact h
      refine wp_region_held_drew (S := fun w' => True) (by kernel_rfl) trivial (fun hHeld => ?_)
      refine wpAnyH_take (i := 0) (v := ?_) rfl (by kernel_rfl) (by kernel_rfl) (by kernel_rfl) (fun _ _ _ h => h) (Or.inl ⟨by rfl, ?_⟩) hHeld ?_
      rotate_left
      · (intro w' hSw; (try dsimp only at hSw); go_simp <;> with_reducible rfl)
      simp only [List.getElem_toArray, List.getElem_cons_succ, List.getElem_cons_zero, Act.put, List.setIfInBounds_toArray, List.set_cons_zero, List.set_cons_succ]
      refine wpAnyH_take (i := 3) (v := ?_) rfl (by kernel_rfl) (by kernel_rfl) (by kernel_rfl) (fun _ _ _ h => h) (Or.inl ⟨by rfl, ?_⟩) hHeld ?_
      rotate_left
      · (intro w' hSw; (try dsimp only at hSw); go_simp <;> with_reducible rfl)
      simp only [List.getElem_toArray, List.getElem_cons_succ, List.getElem_cons_zero, Act.put, List.setIfInBounds_toArray, List.set_cons_zero, List.set_cons_succ]
      refine wpAnyH_take (i := 5) (v := ?_) rfl (by kernel_rfl) (by kernel_rfl) (by kernel_rfl) (fun _ _ _ h => h) (Or.inl ⟨by rfl, ?_⟩) hHeld ?_
      rotate_left
      · (intro w' hSw; (try dsimp only at hSw); go_simp <;> with_reducible rfl)
      simp only [List.getElem_toArray, List.getElem_cons_succ, List.getElem_cons_zero, Act.put, List.setIfInBounds_toArray, List.set_cons_zero, List.set_cons_succ]
      refine wpAnyH_ready (rs := [1]) (by kernel_rfl) (by simp) ?_
      refine AllReadyH.cons rfl (fun K hK => ?_) AllReadyH.nil
      go_simp
      go_at_call 40
      refine (cookie_new _).mono ?_
      rintro e w9 ⟨g9, rfl, hn9⟩
      have hB9 : Below wr.heap.size wr w9 := hB8.trans ((below_drew hn9.2.2.2.2).mono hB8.size)
      have hO9 := own_below hown8 (below_drew hn9.2.2.2.2)
      refine hK.out _ _ trivial (fun hHeld => ?_)
      clear hK K
      refine wpAnyH_ready (rs := [2]) (by kernel_rfl) (by simp) ?_
      refine AllReadyH.cons rfl (fun K hK => ?_) AllReadyH.nil
      refine step_app_d 41 rfl Try.underlying24 wr.heap.size w9 rfl (.tmp 39) (.tmp 40) rfl v8 _ [33, 18, 164, 66] (2 + 2) 4 (some ⟨g9, 0, none⟩) 4 (own_rd hown8).1 rfl rfl rfl hO9 hn9.2.2.2.1 hB9.size (by omega) ?_
      intro v10 w10 hown10 hg10
      simp only [Act.put, List.setIfInBounds_toArray, List.set_cons_zero, List.set_cons_succ]
      have hB10 := hB9.grown hg10.out.1 hB9.size (own_base hO9)
      refine hK.out _ _ trivial (fun hHeld => ?_)
      clear hK K
      refine wpAnyH_ready (rs := [4]) (by kernel_rfl) (by simp) ?_
      refine AllReadyH.cons rfl (fun K hK => ?_) AllReadyH.nil
      refine step_app_d 43 rfl Try.underlying24 wr.heap.size w10 rfl (.tmp 41) (.tmp 42) rfl v10 _ id (2 + 2 + 4) 12 (some ⟨w.heap.size, 0, none⟩) 12 (own_rd hown10).1 HD12.out rfl rfl hown10 (rd_blk (blk_below HT1.out (below_then hB.out hB10))) hB10.size (by omega) ?_
      intro v11 w11 hown11 hg11
      simp only [Act.put, List.setIfInBounds_toArray, List.set_cons_zero, List.set_cons_succ]
      have hB11 := hB10.grown hg11.out.1 hB10.size (own_base hown10)
      refine hK.out _ _ trivial (fun hHeld => ?_)
      clear hK K
      refine wpAnyH_ready (rs := [6]) (by kernel_rfl) (by simp) ?_
      refine AllReadyH.cons rfl (fun K hK => ?_) AllReadyH.nil
      refine step_app_d 45 rfl Try.underlying24 wr.heap.size w11 rfl (.tmp 43) (.tmp 44) rfl v11 _ (attrB T vb) (2 + 2 + 4 + 12) (4 + n + m) A5 c5 (own_rd hown11).1 HEL.out rfl rfl hown11 (hR5.below hB11) hB11.size (by omega) ?_
      intro v12 w12 hown12 hg12
      simp only [Act.put, List.setIfInBounds_toArray, List.set_cons_zero, List.set_cons_succ]
      have hB12 := hB11.grown hg12.out.1 hB11.size (own_base hown11)
      refine hK.out _ _ trivial (fun hHeld => ?_)
      clear hK K
      refine wpAnyH_take (i := 7) (v := ?_) rfl (by kernel_rfl) (by kernel_rfl) (by kernel_rfl) (fun _ _ _ h => h) (Or.inl ⟨by rfl, ?_⟩) hHeld ?_
      rotate_left
      · (intro w' hSw; (try dsimp only at hSw); go_simp <;> with_reducible rfl)
      simp only [List.getElem_toArray, List.getElem_cons_succ, List.getElem_cons_zero, Act.put, List.setIfInBounds_toArray, List.set_cons_zero, List.set_cons_succ]
      refine wpAnyH_done (by kernel_rfl) ?_ _
      have hmsg : msgB T id vb = [0, 1] ++ put2 ((4 + n + m : Nat) : Int) ++ [33, 18, 164, 66] ++ id ++ attrB T vb := by unfold msgB; rw [HEL.out]
      have hlen : (msgB T id vb).length = 2 + 2 + 4 + 12 + (4 + n + m) := by rw [hmsg]; exact (own_rd hown12).1
      rw [← hmsg, ← hlen] at hown12
      have HF := Lib.hid (And.intro (own_lower hown12 (base' := w.heap.size) (by have := hB.out.size; omega)) (below_then HBw.out (below_then hB.out hB12)))
      clear hown12 hmsg hlen
      go_wp2_with fail
      go_ret
      rw [HVB.out]
      exact ⟨_, rfl, HF.out.1, HF.out.2⟩
end Go.Proofs.Ythgghgejndncnaa
