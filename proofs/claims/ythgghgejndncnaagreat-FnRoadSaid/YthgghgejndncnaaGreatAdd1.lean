/- 'impl.Add$1', 'impl.Add': what adds the attribute is left open. -/
import Derived.Test.YthgghgejndncnaaGreatSet
import Derived.Test.YthgghgejndncnaaGreatM10
import Derived.Test.YthgghgejndncnaaGreatDec
namespace Go.Proofs.YthgghgejndncnaaGreat
open Go.RowKit
set_option linter.unusedSimpArgs false
set_option linter.unusedVariables false

theorem enterAdd1 (args : Array Value) (w : World) : (callFunc 15 args).run Tryz.prog w = .ok (.enter 15 args) w :=
  enters Tryz.func15 (by kernel_rfl) rfl args w

theorem MsgBlk.there {w : World} {g : Nat} {M C L : Int} {id : List Int} {a r : Value} (h : MsgBlk w g M C L id a r) : w.there g 3 12 := fun j hj => by
  refine ⟨?_, h.free _⟩
  obtain ⟨b', o', e, hc⟩ := h.rd.at_ (j := j) (by have := h.1; omega)
  injection e with e
  injection e with e1 e2
  subst e1 e2
  rw [hc]; rfl
theorem setCells_heap (b : Nat) (t : TypeId) (fr : Nat × Nat) : ∀ (vs : List Value) (o : Nat) (w : World) (cs : List Value), w.heap[b]? = some (.cells cs.toArray t fr) → o + vs.length ≤ cs.length →
    (w.setCells b o vs).heap[b]? = some (.cells (cs.take o ++ vs ++ cs.drop (o + vs.length)).toArray t fr)
  | [], o, w, cs, h, _ => by simpa [World.setCells] using h
  | v :: r, o, w, cs, h, hl => by
    have hl' : o + (r.length + 1) ≤ cs.length := by simpa using hl
    have h1 := blk_set h o v
    rw [List.setIfInBounds_toArray] at h1
    have h2 := setCells_heap b t fr r (o + 1) (w.setCell ⟨b, o, none⟩ v) (cs.set o v) h1 (by simp; omega)
    have e1 : (cs.set o v).take (o + 1) = cs.take o ++ [v] := by
      rw [List.take_succ_eq_append_getElem (by simp; omega), List.take_set_of_le (Nat.le_refl _), List.getElem_set_self]
    have e2 : (cs.set o v).drop (o + 1 + r.length) = cs.drop (o + (v :: r).length) := by
      rw [List.drop_set_of_lt (by omega)]
      congr 1
      simp only [List.length_cons]; omega
    rw [e1, e2] at h2
    show ((w.setCell ⟨b, o, none⟩ v).setCells b (o + 1) r).heap[b]? = _
    rw [h2]
    simp
theorem setCells_kept (b : Nat) : ∀ (vs : List Value) (o : Nat) (w : World), Kept [b] w (w.setCells b o vs)
  | [], _, _ => Kept.refl _ _
  | v :: r, o, w => ((Kept.refl [b] w).setCell (p := ⟨b, o, none⟩) (.inl (by simp)) v).trans (setCells_kept b r (o + 1) _) (fun _ h => .inl h)
theorem MsgBlk.setid {w : World} {g : Nat} {M C L : Int} {idz id : List Int} {a r : Value} (h : MsgBlk w g M C L idz a r) (hid : id.length = 12) :
    MsgBlk (w.setCells g 3 (nums id)) g M C L id a r := by
  obtain ⟨hz, hb⟩ := h
  have h2 := setCells_heap g 54 (0, 0) (nums id) 3 w (msgCs M C L idz a r) hb (by simp [msgCs, nums_length, hz, hid])
  refine ⟨hid, h2.trans ?_⟩
  rw [nums_length, hid]
  congr 3
  unfold msgCs
  have e : (nums idz).length = 12 := by rw [nums_length, hz]
  simp [List.drop_append, e]
/-- the transaction is laid -/
theorem wpList_store_id {ops : Array Oper} {rest : List Oper} {o : Oper} {act : Act} {Q : Exit → Act → World → Prop} {w : World} (hgd : o.guard = none) (x y : Operand) (ho : o.op = .store 22 x y)
    (g : Nat) (M C L : Int) (idz id : List Int) (a r : Value) (h : MsgBlk w g M C L idz a r) (hid : id.length = 12) (hx : act.eval x = .pointer (some ⟨g, 3, none⟩)) (hy : act.eval y = .agg (nums id).toArray)
    (hq : ∀ w', MsgBlk w' g M C L id a r → Kept [g] w w' → wpList Tryz.prog ops Q rest (act.put o.dst undef) w') : wpList Tryz.prog ops Q (o :: rest) act w := by
  refine wpList_store_mid hgd 22 x y ho g 3 (nums id).toArray hx hy ?_ ?_ (all_oneCell_toArray (nums_one id)) ?_
  · have e : (nums id).toArray.size = 12 := by rw [List.size_toArray, nums_length, hid]
    rw [e]; exact h.there
  · rw [List.size_toArray, nums_length, hid]; kernel_rfl
  · have hk := setCells_kept g (nums id) 3 w
    exact hq _ (h.setid hid) hk

theorem hdr_back (id bs : List Int) (t : Int) (v : List Int) (hid : id.length = 12) (h : bs.take (24 + pad4 v.length) = hdrB (4 + (pad4 v.length : Int)) id ++ attrB t v) : hdrB (4 + (pad4 v.length : Int)) id ++ bs.drop 20 = bs := by
  have h20 : bs.take 20 = hdrB (4 + (pad4 v.length : Int)) id := by
    have e := congrArg (List.take 20) h
    rw [List.take_take, Nat.min_eq_left (by omega), List.take_append_of_le_length (by rw [hdrB_length _ id hid]; exact Nat.le_refl _), List.take_of_length_le (l := hdrB (4 + (pad4 v.length : Int)) id) (by rw [hdrB_length _ id hid]; exact Nat.le_refl _)] at e
    exact e
  rw [← h20, List.take_append_drop]
theorem hdr_msgH (t : Int) (id v : List Int) (hl : v.length ≤ 1000) : hdrB (4 + (pad4 v.length : Int)) id ++ attrB t v = msgH 0 0 t id v := by
  have hp : pad4 (4 + v.length) = 4 + pad4 v.length := by unfold pad4; omega
  have hpl : pad4 v.length ≤ v.length + 3 := by unfold pad4; omega
  unfold msgH hdrB
  rw [attrB_length, hp]
  have e1 : (((4 + pad4 v.length : Nat) : Int)) = 4 + (pad4 v.length : Int) := by omega
  have e2 : (4 + (pad4 v.length : Int)) / 256 % 256 = (4 + (pad4 v.length : Int)) / 256 := by omega
  simp [put2, e2]
theorem msgH_length (m0 m1 t : Int) (id v : List Int) (hid : id.length = 12) : (msgH m0 m1 t id v).length = 24 + pad4 v.length := by
  have : pad4 (4 + v.length) = 4 + pad4 v.length := by unfold pad4; omega
  simp [msgH, put2, attrB_length, hid, this]
  omega

set_option maxRecDepth 100000 in
set_option maxHeartbeats 2000000 in
theorem add1_any (p0 p1 p2 : Nat) (id : List Int) (u : TypeId) (sv : Value) (F : FuncId) (t : Int) (v : List Int) (w : World) (hid : id.length = 12) (hl : v.length ≤ 1000)
    (hm : ∀ (K : Nat) (w : World), 0 < K → (method K u sv "AddTo").run Tryz.prog w = .ok (F, sv) w) (hF : ∀ (args : Array Value) (w : World), (callFunc F args).run Tryz.prog w = .ok (.enter F args) w)
    (hadd : ∀ (g rb : Nat) (bs : List Int) (w1 : World), Kept [] w w1 → w.heap.size ≤ g → w.heap.size ≤ rb → Fresh w1 g rb id bs → Calls Tryz.prog F #[sv, .pointer (some ⟨g, 0, none⟩)] w1 fun e w' => e = .returned .nilIface ∧ Added w1 w' g rb id t v)
    (h0 : w.heap[p0]? = some (.cells (nums id).toArray 22 (0, 0))) (h1 : w.cell? ⟨p1, 0, none⟩ = some (.iface u sv)) (h2 : w.heap[p2]? = some (.cells #[.slice none 0 0] 24 (0, 0))) :
    Calls Tryz.prog 15 #[.pointer (some ⟨p0, 0, none⟩), .pointer (some ⟨p1, 0, none⟩), .pointer (some ⟨p2, 0, none⟩)] w fun e w' => e = .returned (.bool true) ∧ ∃ A c, 24 + pad4 v.length ≤ c ∧ w'.heap[p2]? = some (.cells #[.slice A (24 + pad4 v.length) c] 24 (0, 0)) ∧ Rd w' A (msgH 0 0 t id v) ∧ Kept [p2] w w' := by
  have H0 := Lib.hid h0
  have H1 := Lib.hid h1
  have H2 := Lib.hid h2
  clear h0 h1 h2
  have HS : Hid ((Tryz.prog.info? 22).map (·.size) = some (nums id).length) := Lib.hid (by rw [nums_length, hid]; kernel_rfl)
  have HI := Lib.hid hid
  have HADD := Lib.hid hadd
  clear hid hadd
  go_enter Tryz.func15, Tryz.ntmps15
  go_wp2_with fail
  refine (new_any _).mono ?_
  rintro e w1 ⟨g, r, rfl, hg1, hr1, hr2, hr3, hB1⟩
  have HG1 := Lib.hid (And.intro hg1 (And.intro hr1 hB1))
  have H01 := Lib.hid (rangeAt_blk (blk_below H0.out hB1))
  clear hg1 hr1 hB1
  go_wp2_with (first
    | (refine wpList_load_mid rfl 22 (.tmp 0) rfl p0 0 rfl (nums id) _ H01.out Tryz.underlying22 rfl HS.out ?_)
    | (refine wpList_store_id rfl (.tmp 9) (.tmp 7) rfl g 0 0 0 zeros12 id _ _ HG1.out.1 HI.out rfl rfl ?_; intro w2 hg2 hk2; have HG2 := Lib.hid (And.intro hg2 hk2); clear hg2 hk2))
  have hrg : r ≠ g := by omega
  have hraw : RawMsg w2 g r 0 id (.slice none 0 0) 20 (List.replicate 120 0) := by
    refine ⟨?_, blk_kept HG1.out.2.1 HG2.out.2 (by simpa using hrg), by simp, hrg⟩
    rw [List.length_replicate]; exact HG2.out.1
  refine (mWH_any g r 0 id _ 20 _ _ hraw (by omega) (by omega)).mono ?_
  rintro e w3 ⟨rfl, h3, hk3⟩
  have hkw : Kept [] w w3 := ((Kept.of_below (S := []) HG1.out.2.2).trans HG2.out.2 (fun x hx => by simp at hx; subst hx; exact .inr (by omega))).trans hk3 (fun x hx => by simp at hx; subst hx; exact .inr hr2)
  have hfr : Fresh w3 g r id (hdrB 0 id ++ (List.replicate 120 0).drop 20) :=
    ⟨h3, by rw [List.take_append_of_le_length (by rw [hdrB_length 0 id HI.out]; exact Nat.le_refl _), List.take_of_length_le (by rw [hdrB_length 0 id HI.out]; exact Nat.le_refl _)], by rw [List.length_append, hdrB_length 0 id HI.out]; simp⟩
  have HF := Lib.hid (And.intro hfr hkw)
  have c1 : w3.cell? ⟨p1, 0, none⟩ = some (.iface u sv) := hkw.cell H1.out (by simp)
  clear hraw h3 hk3 hkw hfr HG1 HG2 H01
  go_wp2_with fail
  have hgw : w.heap.size ≤ g := by omega
  refine (HADD.out g r _ w3 HF.out.2 hgw hr2 HF.out.1).mono ?_
  rintro e w4 ⟨rfl, rb4, bs4, at4, hr4, hb4, ho4, hk4⟩
  have hpl : pad4 v.length ≤ v.length + 3 := by unfold pad4; omega
  have hk4w : Kept [] w w4 := HF.out.2.trans hk4 (fun x hx => by
    simp at hx
    rcases hx with rfl | rfl
    · exact .inr hgw
    · exact .inr hr2)
  have hrb4 : w.heap.size ≤ rb4 := by
    rcases ho4 with rfl | h
    · exact hr2
    · exact Nat.le_trans HF.out.2.size h
  have H4 := Lib.hid (And.intro hr4 (And.intro hb4 hk4w))
  clear hr4 hb4 ho4 hk4 hk4w c1
  go_wp2_with fail
  refine (mWH_any g rb4 _ id at4 _ bs4 _ H4.out.1 (by omega) (by omega)).mono ?_
  rintro e w5 ⟨rfl, h5, hk5⟩
  have hbs := hdr_back id bs4 t v HI.out H4.out.2.1
  rw [hbs] at h5
  have hk5w : Kept [] w w5 := H4.out.2.2.trans hk5 (fun x hx => by simp at hx; subst hx; exact .inr hrb4)
  have c16 := h5.raw
  have hR5 : Rd w5 (some ⟨rb4, 0, none⟩) (msgH 0 0 t id v) := by
    rw [← hdr_msgH t id v hl, ← H4.out.2.1]
    exact rd_prefix (ys := bs4.drop (24 + pad4 v.length)) (by rw [List.take_append_drop]; exact rd_blk h5.2.1)
  have hp2 : w5.heap[p2]? = some (.cells #[.slice none 0 0] 24 (0, 0)) := blk_kept H2.out hk5w (by simp)
  have hml := msgH_length 0 0 t id v HI.out
  have H5 := Lib.hid (And.intro hk5w (And.intro hR5 (And.intro hp2 hml)))
  have hp2l := blk_lt hp2
  clear h5 hk5 hbs hk5w hR5 hp2 hml
  generalize bs4.length = c4 at c16
  go_wp2_with fail
  refine (cloneB_any (some ⟨rb4, 0, none⟩) (24 + pad4 v.length) c4 (msgH 0 0 t id v) _ H5.out.2.2.2 (by omega) H5.out.2.1).mono ?_
  rintro e w6 ⟨v6, rfl, hown6, hB6⟩
  obtain ⟨-, A6, c6, hv6, hc6, hcm6, hR6⟩ := own_rd hown6
  have hA6 : ∀ a, A6 = some a → a.block ≠ p2 := fun a ea => by
    subst ea
    have := (hown6.lt a.block (by rw [hv6]; rfl)).1
    omega
  have hp6 := blk_below H5.out.2.2.1 hB6
  have e6 : w6.cell? ⟨p2, 0, none⟩ = some (.slice none 0 0) := (blk_cell hp6 0).trans rfl
  have f6 := blk_free hp6 0
  subst hv6
  have H6 := Lib.hid (And.intro (blk_set hp6 0 (.slice A6 (24 + pad4 v.length) c6)) (And.intro (hR6.setCell ⟨p2, 0, none⟩ (.slice A6 (24 + pad4 v.length) c6) hA6) ((((H5.out.1.then_below (hB6.mono H5.out.1.size)).mono (T := [p2]) (by simp)).setCell (p := ⟨p2, 0, none⟩) (.inl (by simp)) (.slice A6 (24 + pad4 v.length) c6)))))
  clear hown6 hB6 hR6 hA6 hp6 c16
  go_wp2_with fail
  go_ret
  exact ⟨rfl, A6, c6, hc6, H6.out.1, H6.out.2.1, H6.out.2.2⟩
end Go.Proofs.YthgghgejndncnaaGreat
