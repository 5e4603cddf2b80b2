/- 'laws.FnAdd': the good case. -/
import Derived.Test.YthgghgejndncnaaAddK
import Derived.Test.YthgghgejndncnaaFind
import Derived.Test.YthgghgejndncnaaSame
import Derived.Deep.Cut
import Derived.Deep.CutRange
import Derived.Deep.DeepCutAuto
namespace Go.Proofs.Ythgghgejndncnaa
open Go.RowKit
set_option linter.unusedSimpArgs false
set_option linter.unusedVariables false

theorem msgH_id (m0 m1 t : Int) (id v : List Int) (hid : id.length = 12) : ((msgH m0 m1 t id v).drop 8).take 12 = id := by
  obtain ⟨a, b, c, d, e, f, g, i, j, k, l, m, rfl⟩ := list12 id hid
  rfl
theorem msgH_lengthA (m0 m1 t : Int) (id v : List Int) (hid : id.length = 12) : (msgH m0 m1 t id v).length = 24 + pad4 v.length := by
  have : pad4 (4 + v.length) = 4 + pad4 v.length := by unfold pad4; omega
  simp [msgH, put2, attrB_length, hid, this]
  omega
theorem valB_lenA {k N : Int} {ax : List Int} {P : Int} {dx id : List Int} (h : properB k N ax.length ax P dx.length = true) (hid : id.length = 12) (hk : 0 ≤ k ∧ k ≤ 10) : (valB k N ax P dx id).length ≤ 1000 := by
  have hx : (xorL ax (mask id)).length ≤ 16 := by rw [xorL_length]; simp [mask, hid]; omega
  have : k = 0 ∨ k = 1 ∨ k = 2 ∨ k = 3 ∨ k = 4 ∨ k = 5 ∨ k = 6 ∨ k = 7 ∨ k = 8 ∨ k = 9 ∨ k = 10 := by omega
  rcases this with rfl | rfl | rfl | rfl | rfl | rfl | rfl | rfl | rfl | rfl | rfl
  · simp [valB, put2]
  · simp [valB, put4]
  · simp [valB]; omega
  · simp [valB]; omega
  · simp [properB] at h; simp [valB]; omega
  · simp [valB]
  · simp [properB] at h; simp [valB]; omega
  · simp [valB]
  · simp [valB]
  · simp [valB]
  · simp [valB, put4]
theorem addB_val {k N : Int} {ax : List Int} {P : Int} {dx id : List Int} (h5 : ¬ (k = 5 ∧ N = 1)) : addB k N ax P dx id = valB k N ax P dx id := if_neg h5

set_option maxRecDepth 100000 in
set_option maxHeartbeats 8000000 in
theorem fnAdd_good (k : Int) (id : List Int) (N : Int) (aA : Option Addr) (an ac : Nat) (ax : List Int) (P : Int) (dA : Option Addr) (dn dc : Nat) (dx : List Int) (w : World) (hid : id.length = 12) (hN : 0 ≤ N ∧ N ≤ 4294967295)
    (ha : ax.length = an) (hac : an ≤ ac) (hRa : Rd w aA ax) (hd : dx.length = dn) (hdc : dn ≤ dc) (hRd : Rd w dA dx) (hsz : (decide ((an : Int) ≤ 2147483647) && decide ((dn : Int) ≤ 2147483647)) = true) (hf : fitsB k N an ax P dn = true) (h5 : ¬ (k = 5 ∧ N = 1)) :
    Calls Try.prog 8 #[.int .i64 k, idV id, atV N aA an ac P dA dn dc] w fun e w' => e = .returned (.bool true) ∧ Below w.heap.size w w' := by
  have hk : 0 ≤ k ∧ k ≤ 10 := by simp [fitsB] at hf; omega
  have hp : properB k N an ax P dn = true := by simp [fitsB] at hf; exact hf.2
  have h23 : k = 2 ∨ k = 3 → (0 ≤ P ∧ P ≤ 65535) ∧ (an = 4 ∨ an = 16) := fun h => by
    have q := proper_adr h hp
    refine ⟨q.2, ?_⟩
    rcases q.1 with q | q
    · exact .inl q
    · exact .inr q.1
  have hvl : (valB k N ax P dx id).length ≤ 1000 := valB_lenA (by rw [ha, hd]; exact hp) hid hk
  obtain ⟨vb, hvb⟩ : ∃ vb, vb = valB k N ax P dx id := ⟨_, rfl⟩
  rw [← hvb] at hvl
  have hadd : ∀ W : World, Rd W aA ax → Rd W dA dx → Calls Try.prog 23 #[.int .i64 k, idV id, atV N aA an ac P dA dn dc] W fun e w' => AddOut W w' e (typeB k) id vb := fun W h1 h2 => by
    rw [hvb, ← addB_val h5]
    exact add_all k hk id N aA an ac ax P dA dn dc dx W hid hN ha h1 hd h2 hp
  have HVB := Lib.hid hvb
  have HADD := Lib.hid hadd
  clear hvb hadd
  obtain ⟨W, hW⟩ : ∃ W, W = (w.alloc (.cells (nums id).toArray 31)).alloc (.cells #[.int .u32 N, .slice aA an ac, .int .i64 P, .slice dA dn dc] 34) := ⟨_, rfl⟩
  have hB0 : Below w.heap.size w W := by rw [hW]; exact below_then (below_alloc _ _) (below_alloc _ _)
  have bI : W.heap[w.heap.size]? = some (.cells (nums id).toArray 31 (0, 0)) := by rw [hW]; exact blk_alloc (heap_alloc_new w _) _
  have bA : W.heap[w.heap.size + 1]? = some (.cells #[.int .u32 N, .slice aA an ac, .int .i64 P, .slice dA dn dc] 34 (0, 0)) := by rw [hW]; exact heap_at _ _ _ (by simp)
  have HS : Hid ((Try.prog.info? 31).map (·.size) = some (nums id).length) := Lib.hid (by rw [nums_length, hid]; kernel_rfl)
  have HA := Lib.hid (And.intro hid (And.intro ha (And.intro hd h23)))
  have HP := Lib.hid (And.intro hp (And.intro hvl h5))
  have HR := Lib.hid (And.intro hRa hRd)
  have HF := Lib.hid (And.intro hsz hf)
  have HB := Lib.hid (And.intro hB0 (And.intro bI bA))
  clear hid ha hd h23 hp hvl hRa hRd hsz hf hB0 bI bA h5
  go_enter Try.func8, Try.ntmps8
  go_wp2_with fail
  refine (zzFits1_any N aA an ac P dA dn dc _).mono ?_
  rintro e w1 ⟨rfl, hB1⟩
  rw [HF.out.1]
  rw [← hW] at hB1
  have bA1 := blk_below HB.out.2.2 hB1
  obtain ⟨q0, q1, q2, q3⟩ := cells4 bA1
  have H1 := Lib.hid (And.intro (below_then HB.out.1 hB1) (And.intro (blk_below HB.out.2.1 hB1) bA1))
  clear hB1 bA1 hW HB
  go_upto_region 3 with fail
  go_cut [26] (fun v26 wx => v26 = .bool false ∧ Hid (Below w.heap.size w wx ∧ wx.heap[w.heap.size]? = some (.cells (nums id).toArray 31 (0, 0)) ∧ wx.heap[w.heap.size + 1]? = some (.cells #[.int .u32 N, .slice aA an ac, .int .i64 P, .slice dA dn dc] 34 (0, 0))))
  case first =>
    by_cases hk5 : k = 5
    · have hN1 : N ≠ 1 := fun e => HP.out.2.2 ⟨hk5, e⟩
      have t1 : (N == 1) = false := beq_eq_false_iff_ne.2 hN1
      subst hk5
      go_wp2_with fail
      refine (fits_any 5 N aA an ac ax P dA dn dc _ HA.out.2.1 hac ?_).mono ?_
      · exact HR.out.1.below H1.out.1
      rintro e w2 ⟨rfl, hB2⟩
      rw [HF.out.2]
      have bA2 := blk_below H1.out.2.2 hB2
      clear q0 q1 q2 q3
      obtain ⟨q0, q1, q2, q3⟩ := cells4 bA2
      have H2 := Lib.hid (And.intro (below_then H1.out.1 hB2) (And.intro (blk_below H1.out.2.1 hB2) bA2))
      clear hB2 bA2
      go_wp2_with fail
      go_meet
      exact ⟨rfl, H2⟩
    · have t1 : (k == 5) = false := beq_eq_false_iff_ne.2 hk5
      clear hk5
      go_wp2_with fail
      refine (fits_any k N aA an ac ax P dA dn dc _ HA.out.2.1 hac ?_).mono ?_
      · exact HR.out.1.below H1.out.1
      rintro e w2 ⟨rfl, hB2⟩
      rw [HF.out.2]
      have bA2 := blk_below H1.out.2.2 hB2
      have H2 := Lib.hid (And.intro (below_then H1.out.1 hB2) (And.intro (blk_below H1.out.2.1 hB2) bA2))
      clear hB2 bA2
      go_wp2_with fail
      go_meet
      exact ⟨rfl, H2⟩
  case rest =>
  obtain ⟨rfl, H3⟩ := hcut
  clear H1 q0 q1 q2 q3
  have HI3 := Lib.hid (rangeAt_blk H3.out.2.1)
  obtain ⟨q0, q1, q2, q3⟩ := cells4 H3.out.2.2
  go_wp2_with (refine wpList_load_mid rfl 31 (.tmp 4) rfl w.heap.size 0 rfl (nums id) _ HI3.out Try.underlying31 rfl HS.out ?_)
  refine (HADD.out _ (HR.out.1.below H3.out.1) (HR.out.2.below H3.out.1)).mono ?_
  rintro e w5 ⟨A5, c5, hc5, rfl, hR5, hB5⟩
  have H5 := Lib.hid (And.intro (below_then H3.out.1 hB5) (And.intro (blk_below H3.out.2.1 hB5) (blk_below H3.out.2.2 hB5)))
  have HR5 := Lib.hid hR5
  have hvl := HP.out.2.1
  obtain ⟨l, hl⟩ : ∃ l, l = vb.length := ⟨_, rfl⟩
  rw [← hl] at hc5 hvl
  have HL := Lib.hid hl
  have HL' : Hid (vb.length = l) := Lib.hid hl.symm
  clear q0 q1 q2 q3 hB5 hR5 HI3 H3
  rw [← hl]
  clear hl
  obtain ⟨n, hn⟩ : ∃ n, n = 24 + pad4 l := ⟨_, rfl⟩
  rw [← hn] at hc5 ⊢
  have HN := Lib.hid hn
  have hn24 : 24 ≤ n := by omega
  clear hn
  go_wp2_with fail
  refine (sFind_any k hk A5 n c5 l id vb _ HN.out hc5 HA.out.1 HL'.out hvl HR5.out).mono ?_
  rintro e w6 ⟨A6, c6, rfl, hc6, hR6, hB6⟩
  have hRid : Rd w6 (some ⟨w.heap.size, 0, none⟩) id := rd_blk (blk_below H5.out.2.1 hB6)
  have bA6 := blk_below H5.out.2.2 hB6
  have hmn : (msgH 0 0 (typeB k) id vb).length = n := by rw [HN.out, HL.out]; exact msgH_lengthA _ _ _ _ _ HA.out.1
  obtain ⟨A8, q8, hA8, -⟩ := cut_mid (P := Try.prog) Try.underlying24 info_u8 A5 n c5 8 20 12 8 20 rfl rfl rfl (by omega) hc5
  have hR8 := hA8 w6 _ hmn (HR5.out.below hB6)
  rw [msgH_id _ _ _ _ _ HA.out.1] at hR8
  have H6 := Lib.hid (And.intro (below_then H5.out.1 hB6) (And.intro (blk_below H5.out.2.1 hB6) bA6))
  have HR6 := Lib.hid (And.intro hR6 (And.intro hR8 hRid))
  clear hR6 hB6 hRid bA6 hmn hA8 hR8
  generalize c5 - 8 = c8 at *
  go_upto_region 7 with fail
  obtain ⟨q0, q1, q2, q3⟩ := cells4 H6.out.2.2
  have HSS : Hid (∀ w' : World, Below w6.heap.size w6 w' → ((convert 24 9 (.slice A8 12 c8)).run Try.prog w' = .ok (.string (strOfNums id)) w' ∧ (convert 24 9 (.slice (some ⟨w.heap.size, 0, none⟩) 12 12)).run Try.prog w' = .ok (.string (strOfNums id)) w' ∧ (convert 24 9 (.slice A6 l c6)).run Try.prog w' = .ok (.string (strOfNums vb)) w' ∧ w'.rangeAt w.heap.size 0 (nums id) ∧ w'.cell? ⟨w.heap.size + 1, 0, none⟩ = some (.int .u32 N) ∧ w'.cell? ⟨w.heap.size + 1, 1, none⟩ = some (.slice aA an ac) ∧ w'.cell? ⟨w.heap.size + 1, 2, none⟩ = some (.int .i64 P) ∧ w'.cell? ⟨w.heap.size + 1, 3, none⟩ = some (.slice dA dn dc))) := Lib.hid (fun w' hb => by
    obtain ⟨q0, q1, q2, q3⟩ := cells4 (blk_below H6.out.2.2 hb)
    exact ⟨conv_rd Try.underlying24 Try.underlying5 Try.underlying9 HA.out.1 (HR6.out.2.1.below hb), conv_rd Try.underlying24 Try.underlying5 Try.underlying9 HA.out.1 (HR6.out.2.2.below hb), conv_rd Try.underlying24 Try.underlying5 Try.underlying9 HL'.out (HR6.out.1.below hb), rangeAt_blk (blk_below H6.out.2.1 hb), q0, q1, q2, q3⟩)
  refine wp_region_held_drew (S := fun w' => (convert 24 9 (.slice A8 12 c8)).run Try.prog w' = .ok (.string (strOfNums id)) w' ∧ (convert 24 9 (.slice (some ⟨w.heap.size, 0, none⟩) 12 12)).run Try.prog w' = .ok (.string (strOfNums id)) w' ∧ (convert 24 9 (.slice A6 l c6)).run Try.prog w' = .ok (.string (strOfNums vb)) w' ∧ w'.rangeAt w.heap.size 0 (nums id) ∧ w'.cell? ⟨w.heap.size + 1, 0, none⟩ = some (.int .u32 N) ∧ w'.cell? ⟨w.heap.size + 1, 1, none⟩ = some (.slice aA an ac) ∧ w'.cell? ⟨w.heap.size + 1, 2, none⟩ = some (.int .i64 P) ∧ w'.cell? ⟨w.heap.size + 1, 3, none⟩ = some (.slice dA dn dc)) (by kernel_rfl) ⟨conv_rd Try.underlying24 Try.underlying5 Try.underlying9 HA.out.1 HR6.out.2.1, conv_rd Try.underlying24 Try.underlying5 Try.underlying9 HA.out.1 HR6.out.2.2, conv_rd Try.underlying24 Try.underlying5 Try.underlying9 HL'.out HR6.out.1, rangeAt_blk H6.out.2.1, q0, q1, q2, q3⟩ (fun hHeld => ?_)
  clear q0 q1 q2 q3
  refine wpAnyH_take (i := 0) (v := ?_) rfl (by kernel_rfl) (by kernel_rfl) (by kernel_rfl) (fun _ _ _ h => h) (Or.inl ⟨by rfl, ?_⟩) hHeld ?_
  rotate_left
  · (intro w' hSw; (try dsimp only at hSw); go_simp <;> with_reducible rfl)
  simp only [List.getElem_toArray, List.getElem_cons_succ, List.getElem_cons_zero, Act.put, List.setIfInBounds_toArray, List.set_cons_zero, List.set_cons_succ]
  refine wpAnyH_take (i := 1) (v := ?_) rfl (by kernel_rfl) (by kernel_rfl) (by kernel_rfl) (fun _ _ _ h => h) (Or.inl ⟨by rfl, ?_⟩) hHeld ?_
  rotate_left
  · (intro w' hSw; (try dsimp only at hSw); go_simp <;> with_reducible rfl)
  simp only [List.getElem_toArray, List.getElem_cons_succ, List.getElem_cons_zero, Act.put, List.setIfInBounds_toArray, List.set_cons_zero, List.set_cons_succ]
  refine wpAnyH_take (i := 2) (v := ?_) rfl (by kernel_rfl) (by kernel_rfl) (by kernel_rfl) (fun _ _ _ h => h) (Or.inl ⟨by rfl, ?_⟩) hHeld ?_
  rotate_left
  · (intro w' hSw; (try dsimp only at hSw); go_simp <;> with_reducible rfl)
  simp only [List.getElem_toArray, List.getElem_cons_succ, List.getElem_cons_zero, Act.put, List.setIfInBounds_toArray, List.set_cons_zero, List.set_cons_succ]
  refine wpAnyH_take (i := 3) (v := ?_) rfl (by kernel_rfl) (by kernel_rfl) (by kernel_rfl) (fun _ _ _ h => h) (Or.inl ⟨by rfl, ?_⟩) hHeld ?_
  rotate_left
  · (intro w' hSw; (try dsimp only at hSw); go_simp <;> with_reducible rfl)
  simp only [List.getElem_toArray, List.getElem_cons_succ, List.getElem_cons_zero, Act.put, List.setIfInBounds_toArray, List.set_cons_zero, List.set_cons_succ]
  refine wpAnyH_take (i := 4) (v := ?_) rfl (by kernel_rfl) (by kernel_rfl) (by kernel_rfl) (fun _ _ _ h => h) (Or.inl ⟨by rfl, ?_⟩) hHeld ?_
  rotate_left
  · (intro w' hSw; (try dsimp only at hSw); go_simp <;> with_reducible rfl)
  simp only [List.getElem_toArray, List.getElem_cons_succ, List.getElem_cons_zero, Act.put, List.setIfInBounds_toArray, List.set_cons_zero, List.set_cons_succ]
  refine wpAnyH_take (i := 5) (v := ?_) rfl (by kernel_rfl) (by kernel_rfl) (by kernel_rfl) (fun _ _ _ h => h) (Or.inl ⟨by rfl, ?_⟩) hHeld ?_
  rotate_left
  · (intro w' hSw; (try dsimp only at hSw); go_simp <;> with_reducible rfl)
  simp only [List.getElem_toArray, List.getElem_cons_succ, List.getElem_cons_zero, Act.put, List.setIfInBounds_toArray, List.set_cons_zero, List.set_cons_succ]
  refine wpAnyH_take (i := 6) (v := ?_) rfl (by kernel_rfl) (by kernel_rfl) (by kernel_rfl) (fun _ _ _ h => h) (Or.inl ⟨by rfl, ?_⟩) hHeld ?_
  rotate_left
  · (intro w' hSw; (try dsimp only at hSw); go_simp <;> with_reducible rfl)
  simp only [List.getElem_toArray, List.getElem_cons_succ, List.getElem_cons_zero, Act.put, List.setIfInBounds_toArray, List.set_cons_zero, List.set_cons_succ]
  refine wpAnyH_take (i := 7) (v := ?_) rfl (by kernel_rfl) (by kernel_rfl) (by kernel_rfl) (fun _ _ _ h => h) (Or.inl ⟨by rfl, ?_⟩) hHeld ?_
  rotate_left
  · (intro w' hSw; (try dsimp only at hSw); go_simp <;> with_reducible rfl)
  simp only [List.getElem_toArray, List.getElem_cons_succ, List.getElem_cons_zero, Act.put, List.setIfInBounds_toArray, List.set_cons_zero, List.set_cons_succ]
  refine wpAnyH_take (i := 8) (v := ?_) rfl (by kernel_rfl) (by kernel_rfl) (by kernel_rfl) (fun _ _ _ h => h) (Or.inl ⟨by rfl, ?_⟩) hHeld ?_
  rotate_left
  · (intro w' hSw; (try dsimp only at hSw); go_simp <;> with_reducible rfl)
  simp only [List.getElem_toArray, List.getElem_cons_succ, List.getElem_cons_zero, Act.put, List.setIfInBounds_toArray, List.set_cons_zero, List.set_cons_succ]
  refine wpAnyH_take (i := 9) (v := ?_) rfl (by kernel_rfl) (by kernel_rfl) (by kernel_rfl) (fun _ _ _ h => h) (Or.inl ⟨by rfl, ?_⟩) hHeld ?_
  rotate_left
  · (intro w' hSw; (try dsimp only at hSw); go_simp <;> with_reducible rfl)
  simp only [List.getElem_toArray, List.getElem_cons_succ, List.getElem_cons_zero, Act.put, List.setIfInBounds_toArray, List.set_cons_zero, List.set_cons_succ]
  refine wpAnyH_take (i := 10) (v := ?_) rfl (by kernel_rfl) (by kernel_rfl) (by kernel_rfl) (fun _ _ _ h => h) (Or.inl ⟨by rfl, ?_⟩) hHeld ?_
  rotate_left
  · (intro w' hSw; (try dsimp only at hSw); go_simp <;> with_reducible rfl)
  simp only [List.getElem_toArray, List.getElem_cons_succ, List.getElem_cons_zero, Act.put, List.setIfInBounds_toArray, List.set_cons_zero, List.set_cons_succ]
  refine wpAnyH_take (i := 11) (v := ?_) rfl (by kernel_rfl) (by kernel_rfl) (by kernel_rfl) (fun _ _ _ h => h) (Or.inl ⟨by rfl, ?_⟩) hHeld ?_
  rotate_left
  · (intro w' hSw; (try dsimp only at hSw); go_simp <;> with_reducible rfl)
  simp only [List.getElem_toArray, List.getElem_cons_succ, List.getElem_cons_zero, Act.put, List.setIfInBounds_toArray, List.set_cons_zero, List.set_cons_succ]
  refine wpAnyH_take (i := 12) (v := ?_) rfl (by kernel_rfl) (by kernel_rfl) (by kernel_rfl) (fun _ _ _ h => h) (Or.inl ⟨by rfl, ?_⟩) hHeld ?_
  rotate_left
  · (intro w' hSw; (try dsimp only at hSw); go_simp <;> with_reducible rfl)
  simp only [List.getElem_toArray, List.getElem_cons_succ, List.getElem_cons_zero, Act.put, List.setIfInBounds_toArray, List.set_cons_zero, List.set_cons_succ]
  refine wpAnyH_take (i := 13) (v := ?_) rfl (by kernel_rfl) (by kernel_rfl) (by kernel_rfl) (fun _ _ _ h => h) (Or.inl ⟨by rfl, ?_⟩) hHeld ?_
  rotate_left
  · (intro w' hSw; (try dsimp only at hSw); go_simp <;> with_reducible rfl)
  simp only [List.getElem_toArray, List.getElem_cons_succ, List.getElem_cons_zero, Act.put, List.setIfInBounds_toArray, List.set_cons_zero, List.set_cons_succ]
  refine wpAnyH_take (i := 14) (v := ?_) rfl (by kernel_rfl) (by kernel_rfl) (by kernel_rfl) (fun _ _ _ h => h) (Or.inl ⟨by rfl, ?_⟩) hHeld ?_
  rotate_left
  · (intro w' hSw; (try dsimp only at hSw); go_simp <;> with_reducible rfl)
  simp only [List.getElem_toArray, List.getElem_cons_succ, List.getElem_cons_zero, Act.put, List.setIfInBounds_toArray, List.set_cons_zero, List.set_cons_succ]
  refine wpAnyH_take (i := 15) (v := ?_) rfl (by kernel_rfl) (by kernel_rfl) (by kernel_rfl) (fun _ _ _ h => h) (Or.inl ⟨by rfl, ?_⟩) hHeld ?_
  rotate_left
  · (intro w' hSw; (try dsimp only at hSw); go_simp <;> with_reducible rfl)
  simp only [List.getElem_toArray, List.getElem_cons_succ, List.getElem_cons_zero, Act.put, List.setIfInBounds_toArray, List.set_cons_zero, List.set_cons_succ]
  refine wpAnyH_take (i := 16) (v := .agg ((nums id)).toArray) rfl (by kernel_rfl) (by kernel_rfl) (by kernel_rfl) (fun _ _ _ h => h) ?_ hHeld ?_
  · refine yieldsIf_load_mid rfl 31 (.tmp 4) rfl w.heap.size 0 rfl (nums id) (.array 12 5) (fun w' hw' => ?_) Try.underlying31 rfl HS.out
    exact hw'.2.2.2.1
  simp only [List.getElem_toArray, List.getElem_cons_succ, List.getElem_cons_zero, Act.put, List.setIfInBounds_toArray, List.set_cons_zero, List.set_cons_succ]
  refine wpAnyH_take (i := 17) (v := ?_) rfl (by kernel_rfl) (by kernel_rfl) (by kernel_rfl) (fun _ _ _ h => h) (Or.inl ⟨by rfl, ?_⟩) hHeld ?_
  rotate_left
  · (intro w' hSw; (try dsimp only at hSw); go_simp <;> with_reducible rfl)
  simp only [List.getElem_toArray, List.getElem_cons_succ, List.getElem_cons_zero, Act.put, List.setIfInBounds_toArray, List.set_cons_zero, List.set_cons_succ]
  refine wpAnyH_ready (rs := [18]) (by kernel_rfl) (by simp) ?_
  refine AllReadyH.cons rfl (fun K hK => ?_) AllReadyH.nil
  go_simp
  go_at_call 18
  refine (attr_any N aA an ac P dA dn dc _).mono ?_
  rintro e w7 ⟨rfl, hB7'⟩
  have hB7 : Below w6.heap.size w6 w7 := below_drew hB7'
  refine hK.out _ _ (HSS.out w7 hB7) (fun hHeld => ?_)
  clear hK K hB7'
  refine wpAnyH_ready (rs := [19]) (by kernel_rfl) (by simp) ?_
  refine AllReadyH.cons rfl (fun K hK => ?_) AllReadyH.nil
  go_simp
  go_at_call 25
  refine (value_any k id N aA an ac ax P dA dn dc dx _ hk HA.out.1 hN HA.out.2.1 hac ?_ HA.out.2.2.1 hdc ?_ HA.out.2.2.2).mono ?_
  · exact HR.out.1.below (below_then H6.out.1 hB7)
  · exact HR.out.2.below (below_then H6.out.1 hB7)
  rintro e w8 ⟨v8, rfl, hv8, hB8'⟩
  rw [← HVB.out] at hv8
  obtain ⟨B8, n8, d8, rfl, hn8, hd8, hR8⟩ := hv8
  have hB8 : Below w6.heap.size w6 w8 := below_then hB7 hB8'
  refine hK.out _ _ (HSS.out w8 hB8) (fun hHeld => ?_)
  clear hK K hB8'
  refine wpAnyH_strong (S' := fun w' => (convert 24 9 (.slice B8 n8 d8)).run Try.prog w' = .ok (.string (strOfNums vb)) w' ∧ (convert 24 9 (.slice A8 12 c8)).run Try.prog w' = .ok (.string (strOfNums id)) w' ∧ (convert 24 9 (.slice (some ⟨w.heap.size, 0, none⟩) 12 12)).run Try.prog w' = .ok (.string (strOfNums id)) w' ∧ (convert 24 9 (.slice A6 l c6)).run Try.prog w' = .ok (.string (strOfNums vb)) w' ∧ w'.rangeAt w.heap.size 0 (nums id) ∧ w'.cell? ⟨w.heap.size + 1, 0, none⟩ = some (.int .u32 N) ∧ w'.cell? ⟨w.heap.size + 1, 1, none⟩ = some (.slice aA an ac) ∧ w'.cell? ⟨w.heap.size + 1, 2, none⟩ = some (.int .i64 P) ∧ w'.cell? ⟨w.heap.size + 1, 3, none⟩ = some (.slice dA dn dc)) (fun w' h => h.2) _ _ _ _ ?_
  replace hHeld : (fun w' : World => (convert 24 9 (.slice B8 n8 d8)).run Try.prog w' = .ok (.string (strOfNums vb)) w' ∧ (convert 24 9 (.slice A8 12 c8)).run Try.prog w' = .ok (.string (strOfNums id)) w' ∧ (convert 24 9 (.slice (some ⟨w.heap.size, 0, none⟩) 12 12)).run Try.prog w' = .ok (.string (strOfNums id)) w' ∧ (convert 24 9 (.slice A6 l c6)).run Try.prog w' = .ok (.string (strOfNums vb)) w' ∧ w'.rangeAt w.heap.size 0 (nums id) ∧ w'.cell? ⟨w.heap.size + 1, 0, none⟩ = some (.int .u32 N) ∧ w'.cell? ⟨w.heap.size + 1, 1, none⟩ = some (.slice aA an ac) ∧ w'.cell? ⟨w.heap.size + 1, 2, none⟩ = some (.int .i64 P) ∧ w'.cell? ⟨w.heap.size + 1, 3, none⟩ = some (.slice dA dn dc)) w8 := ⟨conv_rd Try.underlying24 Try.underlying5 Try.underlying9 hn8 hR8, hHeld⟩
  refine wpAnyH_take (i := 20) (v := ?_) rfl (by kernel_rfl) (by kernel_rfl) (by kernel_rfl) (fun _ _ _ h => h) (Or.inl ⟨by rfl, ?_⟩) hHeld ?_
  rotate_left
  · (intro w' hSw; (try dsimp only at hSw); go_simp <;> with_reducible rfl)
  simp only [List.getElem_toArray, List.getElem_cons_succ, List.getElem_cons_zero, Act.put, List.setIfInBounds_toArray, List.set_cons_zero, List.set_cons_succ]
  refine wpAnyH_take (i := 21) (v := ?_) rfl (by kernel_rfl) (by kernel_rfl) (by kernel_rfl) (fun _ _ _ h => h) (Or.inl ⟨by rfl, ?_⟩) hHeld ?_
  rotate_left
  · (intro w' hSw; (try dsimp only at hSw); go_simp <;> with_reducible rfl)
  simp only [List.getElem_toArray, List.getElem_cons_succ, List.getElem_cons_zero, Act.put, List.setIfInBounds_toArray, List.set_cons_zero, List.set_cons_succ]
  refine wpAnyH_take (i := 22) (v := ?_) rfl (by kernel_rfl) (by kernel_rfl) (by kernel_rfl) (fun _ _ _ h => h) (Or.inl ⟨by rfl, ?_⟩) hHeld ?_
  rotate_left
  · (intro w' hSw; (try dsimp only at hSw); go_simp <;> with_reducible rfl)
  simp only [List.getElem_toArray, List.getElem_cons_succ, List.getElem_cons_zero, Act.put, List.setIfInBounds_toArray, List.set_cons_zero, List.set_cons_succ]
  refine wpAnyH_take (i := 23) (v := ?_) rfl (by kernel_rfl) (by kernel_rfl) (by kernel_rfl) (fun _ _ _ h => h) (Or.inl ⟨by rfl, ?_⟩) hHeld ?_
  rotate_left
  · (intro w' hSw; (try dsimp only at hSw); go_simp <;> with_reducible rfl)
  simp only [List.getElem_toArray, List.getElem_cons_succ, List.getElem_cons_zero, Act.put, List.setIfInBounds_toArray, List.set_cons_zero, List.set_cons_succ]
  refine wpAnyH_ready (rs := [24]) (by kernel_rfl) (by simp) ?_
  refine AllReadyH.cons rfl (fun K hK => ?_) AllReadyH.nil
  go_simp
  go_at_call 11
  refine (works_true _).mono ?_
  rintro e w' ⟨rfl, rfl⟩
  refine hK.out _ _ hHeld (fun hHeld => ?_)
  clear hK K
  refine wpAnyH_take (i := 25) (v := ?_) rfl (by kernel_rfl) (by kernel_rfl) (by kernel_rfl) (fun _ _ _ h => h) (Or.inl ⟨by rfl, ?_⟩) hHeld ?_
  rotate_left
  · (intro w' hSw; (try dsimp only at hSw); go_simp <;> with_reducible rfl)
  simp only [List.getElem_toArray, List.getElem_cons_succ, List.getElem_cons_zero, Act.put, List.setIfInBounds_toArray, List.set_cons_zero, List.set_cons_succ]
  refine wpAnyH_take (i := 26) (v := ?_) rfl (by kernel_rfl) (by kernel_rfl) (by kernel_rfl) (fun _ _ _ h => h) (Or.inl ⟨by rfl, ?_⟩) hHeld ?_
  rotate_left
  · (intro w' hSw; (try dsimp only at hSw); go_simp <;> with_reducible rfl)
  simp only [List.getElem_toArray, List.getElem_cons_succ, List.getElem_cons_zero, Act.put, List.setIfInBounds_toArray, List.set_cons_zero, List.set_cons_succ]
  refine wpAnyH_done (by kernel_rfl) ?_ _
  have HE := Lib.hid (below_then H6.out.1 hB8)
  clear hHeld hB7 hB8 hR8 hn8 hd8
  go_wp2_with fail
  go_ret
  exact ⟨rfl, HE.out⟩
end Go.Proofs.Ythgghgejndncnaa
