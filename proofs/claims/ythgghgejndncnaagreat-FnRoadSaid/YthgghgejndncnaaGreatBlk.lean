/- THE BLOCK OF A MESSAGE; copy. -/
import Derived.Test.YthgghgejndncnaaGreatNew
import Derived.Test.YthgghgejndncnaaGreatDraw
import Derived.Test.YthgghgejndncnaaGreatMsg
import Derived.Laws.CopyOwn
namespace Go.Proofs.YthgghgejndncnaaGreat
open Go.RowKit
set_option linter.unusedSimpArgs false
set_option linter.unusedVariables false

theorem list12 (id : List Int) (h : id.length = 12) : ∃ a b c d e f g i j k l m, id = [a, b, c, d, e, f, g, i, j, k, l, m] := by
  match id, h with
  | [a, b, c, d, e, f, g, i, j, k, l, m], _ => exact ⟨a, b, c, d, e, f, g, i, j, k, l, m, rfl⟩

def zeros12 : List Int := [0, 0, 0, 0, 0, 0, 0, 0, 0, 0, 0, 0]
/-- the cells of a message -/
def msgCs (M C L : Int) (id : List Int) (at_ rw_ : Value) : List Value := [.int .u16 M, .int .u8 C, .int .u32 L] ++ nums id ++ [at_, rw_, .bool false]
def MsgBlk (w : World) (g : Nat) (M C L : Int) (id : List Int) (at_ rw_ : Value) : Prop :=
  id.length = 12 ∧ w.heap[g]? = some (.cells (msgCs M C L id at_ rw_).toArray 54 (0, 0))

section
variable {w : World} {g : Nat} {M C L : Int} {id : List Int} {at_ rw_ : Value}
theorem MsgBlk.facts (h : MsgBlk w g M C L id at_ rw_) : w.cell? ⟨g, 0, none⟩ = some (.int .u16 M) ∧ w.cell? ⟨g, 1, none⟩ = some (.int .u8 C) ∧ w.cell? ⟨g, 2, none⟩ = some (.int .u32 L) ∧
    w.cell? ⟨g, 15, none⟩ = some at_ ∧ w.cell? ⟨g, 16, none⟩ = some rw_ ∧ w.cell? ⟨g, 17, none⟩ = some (.bool false) := by
  obtain ⟨hid, hb⟩ := h
  obtain ⟨a, b, c, d, e, f, g', i, j, k, l, m, rfl⟩ := list12 id hid
  exact ⟨(blk_cell hb 0).trans rfl, (blk_cell hb 1).trans rfl, (blk_cell hb 2).trans rfl, (blk_cell hb 15).trans rfl, (blk_cell hb 16).trans rfl, (blk_cell hb 17).trans rfl⟩
theorem MsgBlk.free (h : MsgBlk w g M C L id at_ rw_) (i : Nat) : w.frozen? ⟨g, i, none⟩ = false := blk_free h.2 i
theorem MsgBlk.rd (h : MsgBlk w g M C L id at_ rw_) : Rd w (some ⟨g, 3, none⟩) id := by
  obtain ⟨hid, hb⟩ := h
  intro _
  refine ⟨g, 3, rfl, fun j hj => ?_⟩
  rw [blk_cell hb, List.getElem?_toArray]
  unfold msgCs
  have h1 : 3 + j < ([Value.int .u16 M, .int .u8 C, .int .u32 L] ++ nums id).length := by simp [nums_length]; omega
  rw [List.getElem?_append_left h1, List.getElem?_append_right (by simp)]
  simp only [List.length_cons, List.length_nil, Nat.zero_add, Nat.reduceAdd]
  rw [show 3 + j - 3 = j by omega]
  exact nums_get hj
theorem MsgBlk.lt (h : MsgBlk w g M C L id at_ rw_) : g < w.heap.size := blk_lt h.2
theorem MsgBlk.kept {w' : World} {S : List Nat} (h : MsgBlk w g M C L id at_ rw_) (k : Kept S w w') (hg : g ∉ S) : MsgBlk w' g M C L id at_ rw_ := ⟨h.1, blk_kept h.2 k hg⟩
theorem MsgBlk.below {w' : World} (h : MsgBlk w g M C L id at_ rw_) (k : Below w.heap.size w w') : MsgBlk w' g M C L id at_ rw_ := ⟨h.1, blk_below h.2 k⟩
theorem MsgBlk.alloc (h : MsgBlk w g M C L id at_ rw_) (o : Obj) : MsgBlk (w.alloc o) g M C L id at_ rw_ := ⟨h.1, blk_alloc h.2 o⟩
theorem MsgBlk.set0 (h : MsgBlk w g M C L id at_ rw_) (x : Int) : MsgBlk (w.setCell ⟨g, 0, none⟩ (.int .u16 x)) g x C L id at_ rw_ := ⟨h.1, (blk_set h.2 0 _).trans rfl⟩
theorem MsgBlk.set1 (h : MsgBlk w g M C L id at_ rw_) (x : Int) : MsgBlk (w.setCell ⟨g, 1, none⟩ (.int .u8 x)) g M x L id at_ rw_ := ⟨h.1, (blk_set h.2 1 _).trans rfl⟩
theorem MsgBlk.set2 (h : MsgBlk w g M C L id at_ rw_) (x : Int) : MsgBlk (w.setCell ⟨g, 2, none⟩ (.int .u32 x)) g M C x id at_ rw_ := ⟨h.1, (blk_set h.2 2 _).trans rfl⟩
theorem MsgBlk.set15 (h : MsgBlk w g M C L id at_ rw_) (v : Value) : MsgBlk (w.setCell ⟨g, 15, none⟩ v) g M C L id v rw_ := by
  obtain ⟨hid, hb⟩ := h
  obtain ⟨a, b, c, d, e, f, g', i, j, k, l, m, rfl⟩ := list12 id hid
  exact ⟨hid, (blk_set hb 15 v).trans rfl⟩
theorem MsgBlk.set16 (h : MsgBlk w g M C L id at_ rw_) (v : Value) : MsgBlk (w.setCell ⟨g, 16, none⟩ v) g M C L id at_ v := by
  obtain ⟨hid, hb⟩ := h
  obtain ⟨a, b, c, d, e, f, g', i, j, k, l, m, rfl⟩ := list12 id hid
  exact ⟨hid, (blk_set hb 16 v).trans rfl⟩
end

/-- copy into a block that is known whole, as a step of a region that draws its order -/
theorem step_copy_own {P : Program} {ops : Array Oper} {o : Oper} {a : Act} {w : World} {K : Act → World → Prop} {Q : Exit → Act → World → Prop} {E : Prop} (dd : Nat) (hdd : o.dst = some dd) (hgd : o.guard = none) (d s : Operand) (dT sT : TypeId)
    (ho : o.op = .call { callee := .builtin .copy, args := #[d, s], argTypes := #[dT, sT] }) (elem : TypeId) (hu : P.underlying dT = some (.slice elem)) (hsz : (P.info? elem).map (·.size) = some 1)
    (g off dLen dCap : Nat) (ad : Addr) (sLen sCap : Nat) (hd : a.eval d = .slice (some ⟨g, off, none⟩) dLen dCap) (hs : a.eval s = .slice (some ad) sLen sCap)
    (cur : Array Value) (t : TypeId) (hg : w.heap[g]? = some (.cells cur t (0, 0))) (cs : List Value) (hn : cs.length = Nat.min sLen dLen)
    (hsrc : ∀ j v, cs[j]? = some v → w.cell? (ad.add j) = some v) (hfit : off + cs.length ≤ cur.size) (h1 : ∀ v ∈ cs, v.oneCell' = true)
    (h : K (a.put (some dd) (goInt cs.length)) (w.setRow g (cur.toList.take off ++ (cs ++ cur.toList.drop (off + cs.length))).toArray)) :
    if Region.wanted o (yielded ops a.tmps) = true then Oper.wp P o a w K Q else E := by
  have hw : Region.wanted o (yielded ops a.tmps) = true := by simp [Region.wanted, hgd]
  rw [if_pos hw]
  have hrun := run_copy_row (P := P) w dT sT o.type elem g off dLen dCap ad sLen sCap cur t cs hu hsz hg hn hsrc hfit h1
  unfold Oper.wp
  simp [execOp, ho, resolve, invoke, builtin, hd, hs, hrun, Result.andThen]
  rw [← hdd] at h
  exact h
theorem kept_setRow (w : World) (g : Nat) (cs : Array Value) : Kept [g] w (w.setRow g cs) :=
  ⟨rfl, rfl, rfl, by simp [World.setRow], fun i hi hn => setRow_other w g i cs (by simpa using hn)⟩

theorem rd_src {w : World} {b o : Nat} {xs : List Int} (h : Rd w (some ⟨b, o, none⟩) xs) : ∀ j v, (nums xs)[j]? = some v → w.cell? (Addr.add ⟨b, o, none⟩ j) = some v := fun j v hv => by
  have hj : j < xs.length := by have := (List.getElem?_eq_some_iff.1 hv).1; rwa [nums_length] at this
  obtain ⟨b', o', e, hc⟩ := h.at_ hj
  injection e with e
  injection e with e1 e2
  subst e1 e2
  rw [Addr.add_lit, hc, ← nums_get hj, hv]
theorem msg_copy {w : World} {g : Nat} {M C L : Int} {idz id : List Int} {a r : Value} (h : MsgBlk w g M C L idz a r) (hid : id.length = 12) :
    MsgBlk (w.setRow g ((msgCs M C L idz a r).toArray.toList.take 3 ++ (nums id ++ (msgCs M C L idz a r).toArray.toList.drop (3 + (nums id).length))).toArray) g M C L id a r := by
  obtain ⟨hz, hb⟩ := h
  obtain ⟨x0, x1, x2, x3, x4, x5, x6, x7, x8, x9, x10, x11, rfl⟩ := list12 idz hz
  obtain ⟨y0, y1, y2, y3, y4, y5, y6, y7, y8, y9, y10, y11, rfl⟩ := list12 id hid
  exact ⟨rfl, (setRow_heap w g _ _ _ _ hb).trans rfl⟩

end Go.Proofs.YthgghgejndncnaaGreat
