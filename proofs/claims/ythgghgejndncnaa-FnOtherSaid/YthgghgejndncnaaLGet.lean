/- 'laws.FnGet': the walk. -/
import Derived.Test.YthgghgejndncnaaGet
import Derived.Test.YthgghgejndncnaaGotAll
namespace Go.Proofs.Ythgghgejndncnaa
open Go.RowKit
set_option linter.unusedSimpArgs false
set_option linter.unusedVariables false

theorem proper_addr {k N : Int} {an : Nat} {ax : List Int} {P : Int} {dn : Nat} (h : properB k N an ax P dn = true) : k = 2 ∨ k = 3 → (0 ≤ P ∧ P ≤ 65535) ∧ (an = 4 ∨ an = 16) := by
  rintro (rfl | rfl)
  · simp [properB] at h; refine ⟨by omega, ?_⟩; rcases h.1.1 with h1 | h1 <;> omega
  · simp [properB] at h; refine ⟨by omega, ?_⟩; rcases h.1.1 with h1 | h1 <;> omega
theorem valB_len {k N : Int} {ax : List Int} {P : Int} {dx id : List Int} (h : properB k N ax.length ax P dx.length = true) (hid : id.length = 12) (hk : 0 ≤ k ∧ k ≤ 10) : (valB k N ax P dx id).length ≤ 1000 := by
  have hx : (xorL ax (mask id)).length ≤ 16 := by rw [xorL_length]; simp [mask, hid]; omega
  rcases kinds hk with rfl | rfl | rfl | rfl | rfl | rfl | rfl | rfl | rfl | rfl | rfl
  · simp [valB, put2]
  · simp [valB, put4]
  · simp [valB]; omega
  · simp [valB]; omega
  · simp [properB] at h; simp [valB]; omega
  · simp [valB]
  · simp [properB] at h; simp [valB]; omega
  · simp [valB]
  · simp [valB]
  · simp [valB]
  · simp [valB, put4]
theorem isMsg_msgB {k N : Int} {ax : List Int} {P : Int} {dx id : List Int} (h : properB k N ax.length ax P dx.length = true) (hid : id.length = 12) (hk : 0 ≤ k ∧ k ≤ 10) :
    IsMsg (msgB (typeB k) id (valB k N ax P dx id)) (typeB k) (valB k N ax P dx id) id := by
  refine ⟨⟨0, 1, rfl, by omega, by omega⟩, hid, valB_len h hid hk, typeB_rng k, ?_, ?_⟩
  · unfold typeB; repeat' split <;> omega
  · unfold typeB; repeat' split <;> omega

set_option maxRecDepth 100000 in
set_option maxHeartbeats 4000000 in
theorem fnGet_good (k : Int) (id : List Int) (N : Int) (aA : Option Addr) (an ac : Nat) (ax : List Int) (P : Int) (dA : Option Addr) (dn dc : Nat) (dx : List Int) (w : World) (hid : id.length = 12) (hbi : Bys id) (hN : 0 ≤ N ∧ N ≤ 4294967295)
    (ha : ax.length = an) (hac : an ≤ ac) (hba : Bys ax) (hRa : Rd w aA ax) (hd : dx.length = dn) (hdc : dn ≤ dc) (hRd : Rd w dA dx) (hsz : (decide ((an : Int) ≤ 2147483647) && decide ((dn : Int) ≤ 2147483647)) = true) (hf : fitsB k N an ax P dn = true) :
    Calls Try.prog 6 #[.int .i64 k, idV id, atV N aA an ac P dA dn dc] w fun e w' => e = .returned (.bool true) ∧ Below w.heap.size w w' := by
  have hk : 0 ≤ k ∧ k ≤ 10 := by simp [fitsB] at hf; omega
  have hp : properB k N ax.length ax P dx.length = true := by rw [ha, hd]; simp [fitsB] at hf; exact hf.2
  have h23 := proper_addr hp
  rw [ha] at h23
  have hvl := valB_len hp hid hk
  have hmsg := isMsg_msgB (id := id) hp hid hk
  obtain ⟨W, hW⟩ : ∃ W, W = (w.alloc (.cells (nums id).toArray 31)).alloc (.cells #[.int .u32 N, .slice aA an ac, .int .i64 P, .slice dA dn dc] 34) := ⟨_, rfl⟩
  have hB0 : Below w.heap.size w W := by rw [hW]; exact below_then (below_alloc _ _) (below_alloc _ _)
  have bI : W.heap[w.heap.size]? = some (.cells (nums id).toArray 31 (0, 0)) := by rw [hW]; exact blk_alloc (heap_alloc_new w _) _
  have bA : W.heap[w.heap.size + 1]? = some (.cells #[.int .u32 N, .slice aA an ac, .int .i64 P, .slice dA dn dc] 34 (0, 0)) := by rw [hW]; exact heap_at _ _ _ (by simp)
  have HS : Hid ((Try.prog.info? 31).map (·.size) = some (nums id).length) := Lib.hid (by rw [nums_length, hid]; kernel_rfl)
  have HA := Lib.hid (And.intro hid (And.intro hbi (And.intro ha (And.intro hba (And.intro hd h23)))))
  have HP := Lib.hid (And.intro hp (And.intro hvl hmsg))
  have HR := Lib.hid (And.intro hRa hRd)
  have HF := Lib.hid (And.intro hsz hf)
  have HB := Lib.hid (And.intro hB0 (And.intro bI bA))
  clear hid hbi ha hba hd h23 hp hvl hmsg hRa hRd hsz hf hB0 bI bA
  go_enter Try.func6, Try.ntmps6
  go_wp2_with fail
  refine (zzFits1_any N aA an ac P dA dn dc _).mono ?_
  rintro e w1 ⟨rfl, hB1⟩
  rw [HF.out.1]
  rw [← hW] at hB1
  have bA1 := blk_below HB.out.2.2 hB1
  obtain ⟨q0, q1, q2, q3⟩ := cells4 bA1
  have H1 := Lib.hid (And.intro (below_then HB.out.1 hB1) (And.intro (blk_below HB.out.2.1 hB1) bA1))
  clear hB1 bA1 hW
  go_wp2_with fail
  refine (fits_any k N aA an ac ax P dA dn dc _ HA.out.2.2.1 hac ?_).mono ?_
  · exact HR.out.1.below H1.out.1
  rintro e w2 ⟨rfl, hB2⟩
  rw [HF.out.2]
  have bA2 := blk_below H1.out.2.2 hB2
  clear q0 q1 q2 q3
  obtain ⟨q0, q1, q2, q3⟩ := cells4 bA2
  have H2 := Lib.hid (And.intro (below_then H1.out.1 hB2) (And.intro (blk_below H1.out.2.1 hB2) bA2))
  clear hB2 bA2
  go_wp2_with fail
  refine (attr_any N aA an ac P dA dn dc _).mono ?_
  rintro e w3 ⟨rfl, hB3⟩
  have H3 := Lib.hid (And.intro (below_then H2.out.1 hB3) (blk_below H2.out.2.1 hB3))
  clear q0 q1 q2 q3 hB3
  go_upto_region 6 with fail
  obtain ⟨W4, hW4⟩ : ∃ W4, W4 = w3.alloc (.cells #[.int .u32 N, .slice aA an ac, .int .i64 P, .slice dA dn dc] 37) := ⟨_, rfl⟩
  have bX : W4.heap[w3.heap.size]? = some (.cells #[.int .u32 N, .slice aA an ac, .int .i64 P, .slice dA dn dc] 37 (0, 0)) := by rw [hW4]; exact heap_alloc_new _ _
  have hB4 : Below w3.heap.size w3 W4 := by rw [hW4]; exact below_alloc _ _
  have HI4 := Lib.hid (rangeAt_blk (blk_below H3.out.2 hB4))
  obtain ⟨q0, q1, q2, q3⟩ := cells4 bX
  have H4 := Lib.hid (And.intro (below_then H3.out.1 hB4) bX)
  rw [← hW4]
  generalize w3.heap.size = sx at *
  clear hW4 hB4 bX
  go_wp2_with (refine wpList_load_mid rfl 31 (.tmp 4) rfl w.heap.size 0 rfl (nums id) _ HI4.out Try.underlying31 rfl HS.out ?_)
  refine (sMessage_any k id N aA an ac ax P dA dn dc dx _ hk HA.out.1 hN HA.out.2.2.1 hac ?_ HA.out.2.2.2.2.1 hdc ?_ HA.out.2.2.2.2.2 HP.out.2.1).mono ?_
  · exact HR.out.1.below H4.out.1
  · exact HR.out.2.below H4.out.1
  rintro e w5 ⟨v5, rfl, hown5, hB5⟩
  obtain ⟨hlen5, A5, c5, rfl, hc5, hcm5, hR5⟩ := own_rd hown5
  generalize hraw : msgB (typeB k) id (valB k N ax P dx id) = raw at *
  have HM5 : Hid (IsMsg raw (typeB k) (valB k N ax P dx id) id) := Lib.hid HP.out.2.2
  clear hraw
  have bX5 := blk_below H4.out.2 hB5
  have H5 := Lib.hid (And.intro (below_then H4.out.1 hB5) bX5)
  have HR5 := Lib.hid hR5
  clear q0 q1 q2 q3 hB5 hown5 hR5 bX5
  go_wp2_with fail
  refine (get_msg raw.length c5 k A5 raw (typeB k) (valB k N ax P dx id) id _ rfl hc5 HR5.out HM5.out true (fun N0 ax0 P0 dx0 => properB k N0 ax0.length ax0 P0 dx0.length = true ∧ valB k N0 ax0 P0 dx0 zeros12 = valB k N ax P dx zeros12) ?_).mono ?_
  · intro g w1 hM
    refine (got_yes k g N P ax dx id w1 hk hM HP.out.1 hN HA.out.2.2.2.1 HA.out.1 HA.out.2.1).mono ?_
    rintro e w' ⟨v, N', ax', P', dx', rfl, ⟨aA', an', ac', dA', dn', dc', rfl, h1, h2, h3, h4, h5, h6, h7⟩, hpp, hvv, hB⟩
    exact ⟨N', aA', an', ac', P', dA', dn', dc', rfl, fun _ => ⟨N', ax', P', dx', ⟨aA', an', ac', dA', dn', dc', rfl, h1, h2, h3, h4, h5, h6, h7⟩, hpp, hvv⟩, hB⟩
  rintro e w6 ⟨v6, -, rfl, hA6, hB6⟩
  obtain ⟨N', ax', P', dx', ⟨aA', an', ac', dA', dn', dc', rfl, a1, a2, a3, a4, a5, a6, a7⟩, hpp, hvv⟩ := hA6 rfl
  have HX := Lib.hid (And.intro a1 (And.intro a3 (And.intro a4 (And.intro a6 (And.intro a7 (And.intro hpp hvv))))))
  have bX6 := blk_below H5.out.2 hB6
  have H6 := Lib.hid (And.intro (below_then H5.out.1 hB6) bX6)
  clear a1 a3 a4 a6 a7 hpp hvv hA6 hB6 bX6
  go_upto_region 7 with fail
  obtain ⟨W7, hW7⟩ : ∃ W7, W7 = w6.alloc (.cells #[.int .u32 N', .slice aA' an' ac', .int .i64 P', .slice dA' dn' dc'] 34) := ⟨_, rfl⟩
  have bG7 : W7.heap[w6.heap.size]? = some (.cells #[.int .u32 N', .slice aA' an' ac', .int .i64 P', .slice dA' dn' dc'] 34 (0, 0)) := by rw [hW7]; exact heap_alloc_new _ _
  have hB7 : Below w6.heap.size w6 W7 := by rw [hW7]; exact below_alloc _ _
  obtain ⟨q0, q1, q2, q3⟩ := cells4 bG7
  have H7 := Lib.hid (And.intro (below_then H6.out.1 hB7) (And.intro (blk_below H6.out.2 hB7) (And.intro (HX.out.2.1.below hB7) (HX.out.2.2.2.1.below hB7))))
  rw [← hW7]
  generalize w6.heap.size = sg at *
  clear hW7 hB7 bG7
  go_upto_region 8 with (go_at_call 18; refine (attr_any N' aA' an' ac' P' dA' dn' dc' _).mono ?_; rintro e w8 ⟨rfl, hB8⟩; have H8 := Lib.hid (And.intro (below_then H7.out.1 hB8) (And.intro (blk_below H7.out.2.1 hB8) (And.intro (H7.out.2.2.1.below hB8) (H7.out.2.2.2.below hB8)))); clear hB8)
  obtain ⟨W9, hW9⟩ : ∃ W9, W9 = w8.alloc (.cells #[.int .u32 N', .slice aA' an' ac', .int .i64 P', .slice dA' dn' dc'] 37) := ⟨_, rfl⟩
  have bY9 : W9.heap[w8.heap.size]? = some (.cells #[.int .u32 N', .slice aA' an' ac', .int .i64 P', .slice dA' dn' dc'] 37 (0, 0)) := by rw [hW9]; exact heap_alloc_new _ _
  have hB9 : Below w8.heap.size w8 W9 := by rw [hW9]; exact below_alloc _ _
  clear q0 q1 q2 q3
  obtain ⟨y0, y1, y2, y3⟩ := cells4 bY9
  have H9 := Lib.hid (And.intro (below_then H8.out.1 hB9) (And.intro (blk_below H8.out.2.1 hB9) (And.intro (H8.out.2.2.1.below hB9) (And.intro (H8.out.2.2.2.below hB9) bY9))))
  rw [← hW9]
  generalize w8.heap.size = sy at *
  clear hW9 hB9 bY9
  have hpp : properB k N' an' ax' P' dn' = true := by rw [← HX.out.1, ← HX.out.2.2.1]; exact HX.out.2.2.2.2.2.1
  have HPP := Lib.hid hpp
  have H23' : Hid (k = 2 ∨ k = 3 → (0 ≤ P' ∧ P' ≤ 65535) ∧ (an' = 4 ∨ an' = 16)) := Lib.hid (proper_addr hpp)
  clear hpp
  go_wp2_with fail
  refine (proper_any k N' aA' an' ac' ax' P' dA' dn' dc' _ hk HX.out.1 a2 H9.out.2.2.1).mono ?_
  rintro e w10 ⟨rfl, hB10⟩
  rw [HPP.out]
  obtain ⟨x0, x1, x2, x3⟩ := cells4 (blk_below H9.out.2.1 hB10)
  clear y0 y1 y2 y3
  obtain ⟨y0, y1, y2, y3⟩ := cells4 (blk_below H9.out.2.2.2.2 hB10)
  have H10 := Lib.hid (And.intro (below_then H9.out.1 hB10) (And.intro (H9.out.2.2.1.below hB10) (H9.out.2.2.2.1.below hB10)))
  clear hB10
  go_wp2_with fail
  refine (same_any k N' N aA' aA an' ac' an ac ax' ax P' P dA' dA dn' dc' dn dc dx' dx _ hk HX.out.2.2.2.2.1 HX.out.1 a2 H10.out.2.1 HX.out.2.2.1 a5 H10.out.2.2 H23'.out hN HA.out.2.2.1 hac (HR.out.1.below H10.out.1) HA.out.2.2.2.2.1 hdc (HR.out.2.below H10.out.1) HA.out.2.2.2.2.2 HX.out.2.2.2.2.2.2).mono ?_
  rintro e w11 ⟨rfl, hB11⟩
  have HFIN := Lib.hid (below_then H10.out.1 hB11)
  clear hB11 x0 x1 x2 x3 y0 y1 y2 y3
  go_wp2_with (go_at_call 11; refine (works_true _).mono ?_; rintro e w' ⟨rfl, rfl⟩)
  go_ret
  exact ⟨rfl, HFIN.out⟩
end Go.Proofs.Ythgghgejndncnaa
