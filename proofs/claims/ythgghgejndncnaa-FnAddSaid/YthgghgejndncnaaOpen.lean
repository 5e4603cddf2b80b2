/- WHAT CAME IN: an array of twelve bytes; an attribute by value. -/
import Derived.Test.YthgghgejndncnaaRow
import Derived.Test.YthgghgejndncnaaBys
import Derived.Test.YthgghgejndncnaaVal1
import Derived.Lib.SmallJoins
namespace Go.Proofs.Ythgghgejndncnaa
open Go.Joins Go.ChangeShapes Go.WideShapes Go.ChangeAt Go.RowKit
set_option linter.unusedSimpArgs false
set_option linter.unusedVariables false

section
variable {H : Type} {enc : TypeId × Value → H} {P : Program} {w : World} {base : Nat} {spare : Nat → Bool} {held : Bool}

theorem mapM_bytes {e : TypeId} (he : P.underlying e = some (.int .u8)) {m : Nat} {cs : List Value} : ∀ (L : List Nat) (xs : List (DataW H × List MemPlace)),
    L.mapM (fun i => DataW.trod enc P w base spare held m e ((cs.drop (i * 1)).take 1)) = some xs → ∀ i ∈ L, ∃ a : Int, (0 ≤ a ∧ a ≤ 255) ∧ cs[i]? = some (.int .u8 a)
  | [], _, _ => fun i h => by cases h
  | j :: L, xs, h => by
    rw [List.mapM_cons] at h
    simp only [bind, Option.bind_eq_some_iff, pure, Option.some.injEq] at h
    obtain ⟨y, hy, ys, hys, rfl⟩ := h
    intro i hi
    rcases List.mem_cons.1 hi with rfl | hi
    · obtain ⟨a, ea, rfl, wa⟩ := DataW.trod_int he hy
      refine ⟨a, by have := bounds_u8 wa; omega, ?_⟩
      rw [Nat.mul_one] at ea
      have : (cs.drop i)[0]? = some (.int .u8 a) := by
        have h0 : ((cs.drop i).take 1)[0]? = some (.int .u8 a) := by rw [ea]; rfl
        simpa using h0
      simpa using this
    · exact mapM_bytes he L ys hys i hi

theorem list_bytes (cs : List Value) (h : ∀ i, i < cs.length → ∃ a : Int, (0 ≤ a ∧ a ≤ 255) ∧ cs[i]? = some (.int .u8 a)) : ∃ id : List Int, cs = nums id ∧ Bys id := by
  induction cs with
  | nil => exact ⟨[], rfl, fun x hx => by cases hx⟩
  | cons c cs ih =>
    obtain ⟨a, ha, hc⟩ := h 0 (by simp)
    obtain ⟨id, e, hb⟩ := ih (fun i hi => by obtain ⟨x, hx, hxc⟩ := h (i + 1) (by simp; omega); exact ⟨x, hx, by simpa using hxc⟩)
    simp only [List.getElem?_cons_zero, Option.some.injEq] at hc
    refine ⟨a :: id, by rw [e, hc]; rfl, fun x hx => ?_⟩
    rcases List.mem_cons.1 hx with rfl | hx
    · exact ha
    · exact hb x hx

theorem open_id {r : Reach} {b0 : Nat} {k e : TypeId} (hu : P.underlying k = some (.array 12 e)) (he : P.underlying e = some (.int .u8)) (hC : P.cellsOf k = 12) (hE : P.cellsOf e = 1) {v : Value} {d : DataW H} {p : List MemPlace}
    (hv : Value.okWide P w r b0 k v) (h : DataW.Trod enc P w base spare held k v d p) : ∃ id : List Int, v = idV id ∧ id.length = 12 ∧ Bys id := by
  simp only [Value.okWide, hu] at hv
  obtain ⟨cs, rfl, hcs, -⟩ := hv
  obtain ⟨fuel, hf⟩ := h
  cases fuel with
  | zero => simp [DataW.trod] at hf
  | succ m =>
    rw [DataW.trod_step] at hf
    unfold DataW.trodStep at hf
    simp only [hu, Value.cells] at hf
    rw [if_pos (by rw [hC]; simpa [hC] using hcs)] at hf
    simp only [Option.map_eq_some_iff] at hf
    obtain ⟨ys, hy, -⟩ := hf
    rw [hE] at hy
    have hall := mapM_bytes he _ ys hy
    have hlen : cs.toList.length = 12 := by simpa [hC] using hcs
    obtain ⟨id, e1, hb⟩ := list_bytes cs.toList (fun i hi => hall i (by simp; omega))
    refine ⟨id, ?_, ?_, hb⟩
    · show Value.agg cs = Value.agg (nums id).toArray
      rw [← e1]
    · rw [e1, nums_length] at hlen; exact hlen
end
end Go.Proofs.Ythgghgejndncnaa
