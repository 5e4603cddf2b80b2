/- small makers, said of a world that is a letter. -/
import Derived.Test.YthgghgejndncnaaGreatVal1
import Derived.Test.YthgghgejndncnaaGreatM1
namespace Go.Proofs.YthgghgejndncnaaGreat
open Go.RowKit
set_option linter.unusedSimpArgs false
set_option linter.unusedVariables false

theorem rd_cell {w : World} {g : Nat} {xs : List Int} (h : Rd w (some ⟨g, 0, none⟩) xs) (j : Nat) (hj : j < xs.length) : w.cell? ⟨g, j, none⟩ = some (.int .u8 (xs.getD j 0)) := by
  obtain ⟨b, o, e, hc⟩ := h.at_ hj
  injection e with e
  injection e with e1 e2
  subst e1 e2
  rwa [Nat.zero_add] at hc

/-- a new row, the whole of it -/
def NewRow (w w' : World) (g n : Nat) (xs : List Int) : Prop :=
  w.heap.size ≤ g ∧ xs.length = n ∧ w'.ownsRow w.heap.size 5 1 (.slice (some ⟨g, 0, none⟩) n n) n (nums xs) ∧ Rd w' (some ⟨g, 0, none⟩) xs ∧ Below w.heap.size w w'
theorem newRow (w : World) (n : Nat) (xs : List Int) (hn : xs.length = n) (hm : n ≤ 1000000) : NewRow w (w.alloc (.cells (nums xs).toArray 5)) w.heap.size n xs := by
  subst hn
  exact ⟨Nat.le_refl _, rfl, own_new w _ _ xs rfl (Nat.le_refl _) hm, rd_new w _ xs rfl, (Below.refl _ _).alloc (Nat.le_refl _) _⟩

theorem put2_new (v : Int) (w : World) (hv : 0 ≤ v ∧ v ≤ 4294967295) :
    Calls Tryz.prog 46 #[.int .u32 v, .int .i64 2] w fun e w' => ∃ g, e = .returned (.slice (some ⟨g, 0, none⟩) 2 2) ∧ NewRow w w' g 2 (put2 v) := by
  refine (put2_any v w hv).mono ?_
  rintro e w' ⟨rfl, rfl⟩
  exact ⟨_, rfl, newRow w 2 (put2 v) rfl (by omega)⟩

theorem cookie_new (w : World) :
    Calls Tryz.prog 47 #[] w fun e w' => ∃ g, e = .returned (.slice (some ⟨g, 0, none⟩) 4 4) ∧ NewRow w w' g 4 [33, 18, 164, 66] := by
  refine (cookie_any w).mono ?_
  rintro e w' ⟨rfl, rfl⟩
  exact ⟨_, rfl, newRow w 4 [33, 18, 164, 66] rfl (by omega)⟩

theorem rd_blk {w : World} {g : Nat} {xs : List Int} {t : TypeId} {fr : Nat × Nat} (h : w.heap[g]? = some (.cells (nums xs).toArray t fr)) : Rd w (some ⟨g, 0, none⟩) xs := fun _ =>
  ⟨g, 0, rfl, fun j hj => by
    rw [blk_cell h, Nat.zero_add, List.getElem?_toArray]
    exact nums_get hj⟩

theorem heap_at (w : World) (o : Obj) (g : Nat) (hg : g = w.heap.size) : (w.alloc o).heap[g]? = some o := by subst hg; exact heap_alloc_new w o
theorem below_drew {w w' : World} (h : Below w.drew.heap.size w.drew w') : Below w.heap.size w w' := ⟨h.os, h.tape, h.output, h.size, h.block⟩
theorem below_then {w w1 w2 : World} (h : Below w.heap.size w w1) (k : Below w1.heap.size w1 w2) : Below w.heap.size w w2 := h.trans (k.mono h.size)
theorem below_alloc (w : World) (o : Obj) : Below w.heap.size w (w.alloc o) := (Below.refl _ _).alloc (Nat.le_refl _) _

theorem xorL_length (xs ys : List Int) : (xorL xs ys).length = min xs.length ys.length := by simp [xorL]
theorem xorL_take (xs ys : List Int) (i : Nat) (h1 : i < xs.length) (h2 : i < ys.length) : (xorL xs ys).take (i + 1) = (xorL xs ys).take i ++ [x8 (xs.getD i 0) (ys.getD i 0)] := by
  have h : i < (xorL xs ys).length := by rw [xorL_length]; omega
  rw [List.take_succ_eq_append_getElem h]
  congr 2
  simp [xorL, List.getD_eq_getElem?_getD, List.getElem?_eq_getElem h1, List.getElem?_eq_getElem h2]

end Go.Proofs.YthgghgejndncnaaGreat
