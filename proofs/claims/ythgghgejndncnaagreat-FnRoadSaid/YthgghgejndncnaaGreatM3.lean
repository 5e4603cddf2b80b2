/- 'xorBytes'. -/
import Derived.Test.YthgghgejndncnaaGreatGetB
import Derived.Deep.RegionHeld
import Derived.Deep.Cut
import Derived.Deep.LoopGhost
namespace Go.Proofs.YthgghgejndncnaaGreat
open Go.RowKit
set_option linter.unusedSimpArgs false
set_option linter.unusedVariables false

theorem set_mid {α : Type} (L X : List α) (od i : Nat) (v : α) (hX : X.length = i) (h : od + i < L.length) :
    (L.take od ++ X ++ L.drop (od + i)).set (od + i) v = L.take od ++ (X ++ [v]) ++ L.drop (od + (i + 1)) := by
  have h1 : (L.take od ++ X).length = od + i := by simp [hX]; omega
  rw [List.set_append_right (od + i) v (by omega), h1, Nat.sub_self]
  rw [List.drop_eq_getElem_cons h, List.set_cons_zero]
  simp [Nat.add_assoc]

set_option maxHeartbeats 2000000 in
theorem xorBytes_any (d od dn dc n1 c1 n2 c2 : Nat) (A B : Option Addr) (xs ys : List Int) (L : List Value) (T : TypeId) (w : World) (hd : w.heap[d]? = some (.cells L.toArray T (0, 0))) (h1 : xs.length = n1) (h2 : ys.length = n2) (h12 : n1 ≤ n2) (hdn : n1 ≤ dn) (hdc : dn ≤ dc) (hod : od + n1 ≤ L.length) (hsm : n2 ≤ 1000)
    (hA : Rd w A xs) (hB : Rd w B ys) (hAd : ∀ a, A = some a → a.block ≠ d) (hBd : ∀ a, B = some a → a.block ≠ d) (hpos : 0 < n1) :
    Calls Tryz.prog 65 #[.slice (some ⟨d, od, none⟩) dn dc, .slice A n1 c1, .slice B n2 c2] w fun e w' => e = .returned (.int .i64 n1) ∧ w'.heap[d]? = some (.cells (L.take od ++ nums (xorL xs ys) ++ L.drop (od + n1)).toArray T (0, 0)) ∧ Kept [d] w w' := by
  obtain ⟨ba, oa, rfl, -⟩ := hA (by intro e; subst e; simp at h1; omega)
  obtain ⟨bb, ob, rfl, -⟩ := hB (by intro e; subst e; simp at h2; omega)
  have HA := Lib.hid hA
  have HB := Lib.hid hB
  have HD := Lib.hid hd
  have H1 := Lib.hid h1
  have H2 := Lib.hid h2
  have had : ba ≠ d := hAd _ rfl
  have hbd : bb ≠ d := hBd _ rfl
  have hmin : (n1 : Int) ≤ n2 := by omega
  clear hA hB hd h1 h2 hAd hBd
  go_enter Tryz.func65, Tryz.ntmps65
  go_wp2_with fail
  go_loopg [8] n1 (fun kq v8 wr => ∃ i : Nat, kq + i = n1 ∧ v8 = .int .i64 i ∧ Hid (wr.heap[d]? = some (.cells (L.take od ++ nums ((xorL xs ys).take i) ++ L.drop (od + i)).toArray T (0, 0))) ∧ Hid (Kept [d] w wr))
  case atStart => exact ⟨0, rfl, rfl, Lib.hid (by simpa [nums] using HD.out), Lib.hid (Kept.refl _ _)⟩
  case round =>
    obtain ⟨i, hi, rfl, hd, hk⟩ := hrel
    clear HD
    by_cases hlt : i < n1
    · have t0 : decide ((i : Int) < n1) = true := decide_eq_true (by omega)
      have t1 : (i : Int) < n1 := by omega
      have t2 : (i : Int) < n2 := by omega
      have t3 : (i : Int) < dn := by omega
      have hx : wr.cell? ⟨ba, oa + i, none⟩ = some (.int .u8 (xs.getD i 0)) := by
        obtain ⟨b', o', e, hc⟩ := (HA.out.kept hk.out (fun a e => by injection e with e; subst e; simpa using had)).at_ (j := i) (by have := H1.out; omega)
        injection e with e; injection e with e1 e2; subst e1 e2; exact hc
      have hy : wr.cell? ⟨bb, ob + i, none⟩ = some (.int .u8 (ys.getD i 0)) := by
        obtain ⟨b', o', e, hc⟩ := (HB.out.kept hk.out (fun a e => by injection e with e; subst e; simpa using hbd)).at_ (j := i) (by have := H2.out; omega)
        injection e with e; injection e with e1 e2; subst e1 e2; exact hc
      have HXT := Lib.hid (xorL_take xs ys i (by have := H1.out; omega) (by have := H2.out; omega))
      have hXl : (nums ((xorL xs ys).take i)).length = i := by rw [nums_length, List.length_take, xorL_length, H1.out, H2.out]; omega
      have hset := set_mid L (nums ((xorL xs ys).take i)) od i (.int .u8 (x8 (xs.getD i 0) (ys.getD i 0))) hXl (by omega)
      have hz : wr.cell? ⟨d, od + i, none⟩ = (L.take od ++ nums ((xorL xs ys).take i) ++ L.drop (od + i))[od + i]? := by rw [blk_cell hd.out, List.getElem?_toArray]
      have hzl : od + i < (L.take od ++ nums ((xorL xs ys).take i) ++ L.drop (od + i)).length := by simp [hXl]; omega
      rw [List.getElem?_eq_getElem hzl] at hz
      have HS := Lib.hid hset
      clear hset
      have fz := blk_free hd.out (od + i)
      generalize (L.take od ++ nums ((xorL xs ys).take i) ++ L.drop (od + i))[od + i] = z at hz
      clear hzl
      generalize xs.getD i 0 = x at *
      generalize ys.getD i 0 = y at *
      go_upto_region 5 with fail
      refine wp_region_held_drew (S := fun w' => w'.cell? ⟨ba, oa + i, none⟩ = some (.int .u8 x) ∧ w'.cell? ⟨bb, ob + i, none⟩ = some (.int .u8 y)) (by kernel_rfl) ⟨hx, hy⟩ (fun hHeld => ?_)
      refine wpAnyH_take (i := 0) (v := ?_) rfl (by kernel_rfl) (by kernel_rfl) (by kernel_rfl) (fun _ _ _ h => h) (Or.inl ⟨by rfl, ?_⟩) hHeld ?_
      rotate_left
      · (intro w' hSw; (try dsimp only at hSw); go_simp <;> with_reducible rfl)
      simp only [List.getElem_toArray, List.getElem_cons_succ, List.getElem_cons_zero, Act.put, List.setIfInBounds_toArray, List.set_cons_zero, List.set_cons_succ]
      refine wpAnyH_take (i := 1) (v := ?_) rfl (by kernel_rfl) (by kernel_rfl) (by kernel_rfl) (fun _ _ _ h => h) (Or.inl ⟨by rfl, ?_⟩) hHeld ?_
      rotate_left
      · (intro w' hSw; (try dsimp only at hSw); go_simp <;> with_reducible rfl)
      simp only [List.getElem_toArray, List.getElem_cons_succ, List.getElem_cons_zero, Act.put, List.setIfInBounds_toArray, List.set_cons_zero, List.set_cons_succ]
      refine wpAnyH_take (i := 2) (v := ?_) rfl (by kernel_rfl) (by kernel_rfl) (by kernel_rfl) (fun _ _ _ h => h) (Or.inl ⟨by rfl, ?_⟩) hHeld ?_
      rotate_left
      · (intro w' hSw; (try dsimp only at hSw); go_simp <;> with_reducible rfl)
      simp only [List.getElem_toArray, List.getElem_cons_succ, List.getElem_cons_zero, Act.put, List.setIfInBounds_toArray, List.set_cons_zero, List.set_cons_succ]
      refine wpAnyH_take (i := 3) (v := ?_) rfl (by kernel_rfl) (by kernel_rfl) (by kernel_rfl) (fun _ _ _ h => h) (Or.inl ⟨by rfl, ?_⟩) hHeld ?_
      rotate_left
      · (intro w' hSw; (try dsimp only at hSw); go_simp <;> with_reducible rfl)
      simp only [List.getElem_toArray, List.getElem_cons_succ, List.getElem_cons_zero, Act.put, List.setIfInBounds_toArray, List.set_cons_zero, List.set_cons_succ]
      refine wpAnyH_take (i := 4) (v := ?_) rfl (by kernel_rfl) (by kernel_rfl) (by kernel_rfl) (fun _ _ _ h => h) (Or.inl ⟨by rfl, ?_⟩) hHeld ?_
      rotate_left
      · (intro w' hSw; (try dsimp only at hSw); go_simp <;> with_reducible rfl)
      simp only [List.getElem_toArray, List.getElem_cons_succ, List.getElem_cons_zero, Act.put, List.setIfInBounds_toArray, List.set_cons_zero, List.set_cons_succ]
      refine wpAnyH_take (i := 5) (v := ?_) rfl (by kernel_rfl) (by kernel_rfl) (by kernel_rfl) (fun _ _ _ h => h) (Or.inl ⟨by rfl, ?_⟩) hHeld ?_
      rotate_left
      · (intro w' hSw; (try dsimp only at hSw); go_simp <;> with_reducible rfl)
      simp only [List.getElem_toArray, List.getElem_cons_succ, List.getElem_cons_zero, Act.put, List.setIfInBounds_toArray, List.set_cons_zero, List.set_cons_succ]
      refine wpAnyH_take (i := 6) (v := ?_) rfl (by kernel_rfl) (by kernel_rfl) (by kernel_rfl) (fun _ _ _ h => h) (Or.inl ⟨by rfl, ?_⟩) hHeld ?_
      rotate_left
      · (intro w' hSw; (try dsimp only at hSw); go_simp <;> with_reducible rfl)
      simp only [List.getElem_toArray, List.getElem_cons_succ, List.getElem_cons_zero, Act.put, List.setIfInBounds_toArray, List.set_cons_zero, List.set_cons_succ]
      refine wpAnyH_take (i := 7) (v := ?_) rfl (by kernel_rfl) (by kernel_rfl) (by kernel_rfl) (fun _ _ _ h => h) (Or.inl ⟨by rfl, ?_⟩) hHeld ?_
      rotate_left
      · (intro w' hSw; (try dsimp only at hSw); go_simp <;> with_reducible rfl)
      simp only [List.getElem_toArray, List.getElem_cons_succ, List.getElem_cons_zero, Act.put, List.setIfInBounds_toArray, List.set_cons_zero, List.set_cons_succ]
      refine wpAnyH_take (i := 8) (v := ?_) rfl (by kernel_rfl) (by kernel_rfl) (by kernel_rfl) (fun _ _ _ h => h) (Or.inl ⟨by rfl, ?_⟩) hHeld ?_
      rotate_left
      · (intro w' hSw; (try dsimp only at hSw); go_simp <;> with_reducible rfl)
      simp only [List.getElem_toArray, List.getElem_cons_succ, List.getElem_cons_zero, Act.put, List.setIfInBounds_toArray, List.set_cons_zero, List.set_cons_succ]
      refine wpAnyH_take (i := 9) (v := ?_) rfl (by kernel_rfl) (by kernel_rfl) (by kernel_rfl) (fun _ _ _ h => h) (Or.inl ⟨by rfl, ?_⟩) hHeld ?_
      rotate_left
      · (intro w' hSw; (try dsimp only at hSw); go_simp <;> with_reducible rfl)
      simp only [List.getElem_toArray, List.getElem_cons_succ, List.getElem_cons_zero, Act.put, List.setIfInBounds_toArray, List.set_cons_zero, List.set_cons_succ]
      refine wpAnyH_take (i := 10) (v := ?_) rfl (by kernel_rfl) (by kernel_rfl) (by kernel_rfl) (fun _ _ _ h => h) (Or.inl ⟨by rfl, ?_⟩) hHeld ?_
      rotate_left
      · (intro w' hSw; (try dsimp only at hSw); go_simp <;> with_reducible rfl)
      simp only [List.getElem_toArray, List.getElem_cons_succ, List.getElem_cons_zero, Act.put, List.setIfInBounds_toArray, List.set_cons_zero, List.set_cons_succ]
      refine wpAnyH_take (i := 11) (v := ?_) rfl (by kernel_rfl) (by kernel_rfl) (by kernel_rfl) (fun _ _ _ h => h) (Or.inl ⟨by rfl, ?_⟩) hHeld ?_
      rotate_left
      · (intro w' hSw; (try dsimp only at hSw); go_simp <;> with_reducible rfl)
      simp only [List.getElem_toArray, List.getElem_cons_succ, List.getElem_cons_zero, Act.put, List.setIfInBounds_toArray, List.set_cons_zero, List.set_cons_succ]
      refine wpAnyH_ready (rs := [12]) (by kernel_rfl) (by simp) ?_
      refine AllReadyH.cons rfl (fun K hK => ?_) AllReadyH.nil
      go_simp
      refine hK.out _ _ ⟨(World.cell?_setCell_far _ _ _ _ (fun e => had e.symm)).trans hx, (World.cell?_setCell_far _ _ _ _ (fun e => hbd e.symm)).trans hy⟩ (fun hHeld => ?_)
      clear hK K hHeld
      refine wpAnyH_done (by kernel_rfl) ?_ _
      have HD2 := Lib.hid (blk_set hd.out (od + i) (.int .u8 (x8 x y)))
      have HK2 : Hid (Kept [d] w (wr.setCell ⟨d, od + i, none⟩ (.int .u8 (x8 x y)))) := Lib.hid (hk.out.setCell (.inl (by simp)) _)
      clear hx hy hz fz
      go_wp2_with fail
      go_roundg (gk - 1)
      case measure => omega
      case rel =>
        refine ⟨i + 1, by omega, by simp, Lib.hid ?_, Lib.hid HK2.out.drew⟩
        rw [HXT.out, nums_append, show nums [x8 x y] = [Value.int .u8 (x8 x y)] from rfl, ← HS.out]
        have := HD2.out
        rw [List.setIfInBounds_toArray] at this
        exact this
    · obtain rfl : i = n1 := by omega
      have t0 : decide ((i : Int) < i) = false := decide_eq_false (by omega)
      go_wp2_with fail
      go_ret
      refine ⟨rfl, ?_, hk.out⟩
      have := hd.out
      rw [List.take_of_length_le (l := xorL xs ys) (by rw [xorL_length, H1.out, H2.out]; omega)] at this
      exact this
end Go.Proofs.YthgghgejndncnaaGreat

/- xor of numbers of two bytes; a message's attribute read where the receiver is younger. -/
namespace Go.Proofs.YthgghgejndncnaaGreat
open Go.RowKit
set_option linter.unusedSimpArgs false
set_option linter.unusedVariables false

theorem xor_two (a b c d : Nat) (hb : b < 256) (hd : d < 256) : (a * 256 + b) ^^^ (c * 256 + d) = (a ^^^ c) * 256 + (b ^^^ d) := by
  have hx : b ^^^ d < 2 ^ 8 := Nat.xor_lt_two_pow (by omega) (by omega)
  apply Nat.eq_of_testBit_eq
  intro j
  rw [Nat.testBit_xor, Nat.mul_comm a, Nat.mul_comm c, Nat.mul_comm (a ^^^ c)]
  rw [show (256 : Nat) = 2 ^ 8 from rfl, Nat.testBit_two_pow_mul_add a (by omega) j, Nat.testBit_two_pow_mul_add c (by omega) j, Nat.testBit_two_pow_mul_add (a ^^^ c) hx j]
  split <;> simp [Nat.testBit_xor]

theorem i64_xor_nat (a b : Nat) (ha : a < 65536) (hb : b < 65536) : bits .xor .i64 (a : Int) (b : Int) = ((a ^^^ b : Nat) : Int) := by
  have hx : a ^^^ b < 2 ^ 16 := Nat.xor_lt_two_pow (by omega) (by omega)
  show IntKind.i64.wrap ((BitVec.ofInt 64 (a : Int) ^^^ BitVec.ofInt 64 (b : Int)).toNat : Int) = _
  have ea : (BitVec.ofInt 64 (a : Int)).toNat = a := by simp [BitVec.toNat_ofInt]; omega
  have eb : (BitVec.ofInt 64 (b : Int)).toNat = b := by simp [BitVec.toNat_ofInt]; omega
  rw [BitVec.toNat_xor, ea, eb]
  exact wraps_i64 _ (by omega) (by omega)

theorem port_back (P : Int) (hP : 0 ≤ P ∧ P ≤ 65535) : bits .xor .i64 (x8 (P / 256 % 256) 33 * 256 + x8 (P % 256) 18) 8466 = P := by
  obtain ⟨p, rfl⟩ := Int.eq_ofNat_of_zero_le hP.1
  have h1 : x8 ((p : Int) / 256 % 256) 33 = ((p / 256 % 256 ^^^ 33 : Nat) : Int) := by
    rw [x8_nat _ _ (by omega) (by omega)]
    congr 2
  have h2 : x8 ((p : Int) % 256) 18 = ((p % 256 ^^^ 18 : Nat) : Int) := by
    rw [x8_nat _ _ (by omega) (by omega)]
    congr 2
  have hA : p / 256 % 256 ^^^ 33 < 2 ^ 8 := Nat.xor_lt_two_pow (by omega) (by omega)
  have hB : p % 256 ^^^ 18 < 2 ^ 8 := Nat.xor_lt_two_pow (by omega) (by omega)
  rw [h1, h2]
  have e : (((p / 256 % 256 ^^^ 33 : Nat) : Int) * 256 + ((p % 256 ^^^ 18 : Nat) : Int)) = (((p / 256 % 256 ^^^ 33) * 256 + (p % 256 ^^^ 18) : Nat) : Int) := by omega
  rw [e, show (8466 : Int) = ((33 * 256 + 18 : Nat) : Int) from rfl, i64_xor_nat _ _ (by omega) (by omega), xor_two _ _ _ _ (by omega) (by omega), Nat.xor_assoc, Nat.xor_self, Nat.xor_zero, Nat.xor_assoc, Nat.xor_self, Nat.xor_zero]
  omega
end Go.Proofs.YthgghgejndncnaaGreat

/- what GetFromAs of both lengths leans on. -/
namespace Go.Proofs.YthgghgejndncnaaGreat
open Go.RowKit
set_option linter.unusedSimpArgs false
set_option linter.unusedVariables false

set_option maxHeartbeats 1000000 in
theorem mGet_yes0 (g : Nat) (t : Int) (v id : List Int) (w0 w : World) (h : MsgHas w0 g t v id) (hB0 : Below w0.heap.size w0 w) (hne : v ≠ []) :
    Calls Tryz.prog 58 #[.pointer (some ⟨g, 0, none⟩), .int .u16 t] w fun e w' => ∃ A n c, e = .returned (.tuple #[.slice A n c, .nilIface]) ∧ v.length = n ∧ n ≤ c ∧ Rd w' A v ∧ Below w.heap.size w w' ∧ (∀ a, A = some a → a.block < w0.heap.size) := by
  obtain ⟨M, C, L, rw_, ab, cap, A, n, c, l, hg0, hcap, i0, i1, i2, hn, hnc, hR0⟩ := h
  have hg := hg0.below hB0
  have k := Kept.of_below (S := []) hB0
  have h0 := k.cell i0 (by simp)
  have h1 := k.cell i1 (by simp)
  have h2 := k.cell i2 (by simp)
  have hR := hR0.below hB0
  have hAb : ∀ a, A = some a → a.block < w0.heap.size := by
    intro a e
    obtain ⟨b, o, e', hc⟩ := hR0 hne
    subst e
    injection e' with e'
    subst e'
    have := World.block_lt_of_cell? w0 _ (hc 0 (by cases v with | nil => exact absurd rfl hne | cons x xs => simp))
    simpa using this
  have c15 := hg.facts.2.2.2.1
  have H := Lib.hid (And.intro h0 (And.intro h1 (And.intro h2 (And.intro hR hAb))))
  clear h0 h1 h2 hR hg k hg0 i0 i1 i2 hR0 hAb hB0
  go_enter Tryz.func58, Tryz.ntmps58
  go_wp2_with (go_at_call 63; refine (attrsGet_yes ab cap t l (.slice A n c) _ rfl hcap H.out.1 H.out.2.1 A n c rfl H.out.2.2.1).mono ?_; rintro e w1 ⟨rfl, hB1⟩)
  have HB1 := Lib.hid hB1
  clear hB1
  refine bodyPost_ret (v := .tuple #[.slice A n c, .nilIface]) (by simp [results, Tryz.results58, go_sem]) rfl ?_
  exact ⟨A, n, c, rfl, hn, hnc, (H.out.2.2.2.1.below HB1.out).alloc _, below_then HB1.out (below_alloc _ _), H.out.2.2.2.2⟩

/-- what stays while an address is read -/
def GF (w wx : World) (r d g N b o : Nat) (id val : List Int) (port : Int) (T : TypeId) : Prop :=
  wx.heap[r]? = some (.cells #[.slice (some ⟨d, 0, none⟩) N N, .int .i64 port] T (0, 0)) ∧ wx.heap[d]? = some (.cells (nums (List.replicate N 0)).toArray 5 (0, 0)) ∧ Rd wx (some ⟨b, o, none⟩) val ∧ Rd wx (some ⟨g, 3, none⟩) id ∧ Kept [r] w wx
theorem GF.grow {w wx wy : World} {r d g N b o : Nat} {id val : List Int} {port : Int} {T : TypeId} (h : GF w wx r d g N b o id val port T) (k : Below wx.heap.size wx wy) : GF w wy r d g N b o id val port T :=
  ⟨blk_below h.1 k, blk_below h.2.1 k, h.2.2.1.below k, h.2.2.2.1.below k, h.2.2.2.2.then_below (k.mono h.2.2.2.2.size)⟩
theorem GF.drew {w wx : World} {r d g N b o : Nat} {id val : List Int} {port : Int} {T : TypeId} (h : GF w wx r d g N b o id val port T) : GF w wx.drew r d g N b o id val port T := ⟨h.1, h.2.1, h.2.2.1, h.2.2.2.1, h.2.2.2.2.drew⟩
/-- a block that is younger changes -/
theorem GF.young {w wx wy : World} {r d g N b o e : Nat} {id val : List Int} {port : Int} {T : TypeId} (h : GF w wx r d g N b o id val port T) (k : Kept [e] wx wy) (hr : r ≠ e) (hd : d ≠ e) (hb : b ≠ e) (hg : g ≠ e) (he : w.heap.size ≤ e) : GF w wy r d g N b o id val port T :=
  ⟨blk_kept h.1 k (by simpa using hr), blk_kept h.2.1 k (by simpa using hd), h.2.2.1.kept k (fun a q => by injection q with q; subst q; simpa using hb), h.2.2.2.1.kept k (fun a q => by injection q with q; subst q; simpa using hg), h.2.2.2.2.trans k (fun t ht => by simp at ht; subst ht; exact .inr he)⟩
end Go.Proofs.YthgghgejndncnaaGreat
