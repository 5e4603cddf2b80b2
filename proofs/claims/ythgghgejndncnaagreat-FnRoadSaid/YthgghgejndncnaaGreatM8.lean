/- A SLICE OF BYTES THAT CAME IN reads as a list of bytes. -/
import Derived.Test.YthgghgejndncnaaGreatM1
import Derived.ProofKit
import Derived.OpenShut
import Derived.Test.YthgghgejndncnaaGreatVal1
import Derived.Lib.SmallJoins
namespace Go.Proofs.YthgghgejndncnaaGreat
open Go.ChangeShapes Go.WideShapes Go.ChangeAt Go.RowKit
set_option linter.unusedSimpArgs false
set_option linter.unusedVariables false

theorem seatOwn : ownKnob Tryz.prog.godebug = none := by kernel_rfl
theorem laidOut : laidOutB Tryz.prog = true := by kernel_rfl

/-- what is told of a slice of integers that came in: it is nil; or it leads to a row of 'cap' cells, the numbers 'zs' -/
def IsRow (k : IntKind) (w : World) (a : Option Addr) (len cap : Nat) (zs : List Int) : Prop :=
  (a = none ∧ len = 0 ∧ cap = 0 ∧ zs = []) ∨
  ∃ x, a = some x ∧ len ≤ cap ∧ cap ≤ maxLen ∧ zs.length = cap ∧ (∀ i, i < zs.length → w.cell? (x.add i) = some (.int k (zs.getD i 0))) ∧ ∀ n ∈ zs, (Lit.int k n).wf = true

theorem isRow_len {k : IntKind} {w : World} {a : Option Addr} {len cap : Nat} {zs : List Int} (h : IsRow k w a len cap zs) : (zs.take len).length = len ∧ len ≤ cap := by
  rcases h with ⟨rfl, rfl, rfl, rfl⟩ | ⟨x, rfl, hl, hm, hz, hc, hw⟩
  · simp
  · simp; omega

theorem spot_none {w : World} {x : Addr} {v : Value} (h : w.cell? x = some v) : x.spot = none := by
  unfold World.cell? at h
  split at h
  · split at h
    · cases h
    · cases hs : x.spot with
      | none => rfl
      | some _ => simp_all
  · cases h

theorem isRow_rd {w : World} {a : Option Addr} {len cap : Nat} {zs : List Int} (h : IsRow .u8 w a len cap zs) : Rd w a (zs.take len) := by
  rcases h with ⟨rfl, rfl, rfl, rfl⟩ | ⟨x, rfl, hl, hm, hz, hc, hw⟩
  · exact Rd.nil _ _
  · intro hne
    have hlen : 0 < zs.length := by
      rcases Nat.eq_zero_or_pos zs.length with h0 | h0
      · rw [List.eq_nil_of_length_eq_zero h0] at hne; simp at hne
      · exact h0
    have h0 := hc 0 hlen
    obtain ⟨b, o, s⟩ := x
    have hs := spot_none h0
    have e : s = none := by unfold Addr.add at hs; simpa using hs
    subst e
    refine ⟨b, o, rfl, fun j hj => ?_⟩
    have hj' : j < len := by simp at hj; omega
    have := hc j (by simp at hj; omega)
    rw [Addr.add_lit] at this
    rw [this]
    simp [List.getD_eq_getElem?_getD, List.getElem?_take, hj']

theorem isRow_bys {w : World} {a : Option Addr} {len cap : Nat} {zs : List Int} (h : IsRow .u8 w a len cap zs) : ∀ x ∈ zs.take len, 0 ≤ x ∧ x ≤ 255 := by
  rcases h with ⟨rfl, rfl, rfl, rfl⟩ | ⟨x, rfl, hl, hm, hz, hc, hw⟩
  · simp
  · intro x hx
    have := bounds_u8 (hw x (List.mem_of_mem_take hx))
    omega
end Go.Proofs.YthgghgejndncnaaGreat

/- WHAT CAME IN: an array of twelve bytes; an attribute by value. -/
namespace Go.Proofs.YthgghgejndncnaaGreat
open Go.Joins Go.ChangeShapes Go.WideShapes Go.ChangeAt Go.RowKit
set_option linter.unusedSimpArgs false
set_option linter.unusedVariables false

section
variable {H : Type} {enc : TypeId × Value → H} {P : Program} {w : World} {base : Nat} {spare : Nat → Bool} {held : Bool}

theorem mapM_bytes {e : TypeId} (he : P.underlying e = some (.int .u8)) {m : Nat} {cs : List Value} : ∀ (L : List Nat) (xs : List (DataW H × List MemPlace)),
    L.mapM (fun i => DataW.trod enc P w base spare held m e ((cs.drop (i * 1)).take 1)) = some xs → ∀ i ∈ L, ∃ a : Int, (0 ≤ a ∧ a ≤ 255) ∧ cs[i]? = some (.int .u8 a)
  | [], _, _ => fun i h => by cases h
  | j :: L, xs, h => by
    rw [List.mapM_cons] at h
    simp only [bind, Option.bind_eq_some_iff, pure, Option.some.injEq] at h
    obtain ⟨y, hy, ys, hys, rfl⟩ := h
    intro i hi
    rcases List.mem_cons.1 hi with rfl | hi
    · obtain ⟨a, ea, rfl, wa⟩ := DataW.trod_int he hy
      refine ⟨a, by have := bounds_u8 wa; omega, ?_⟩
      rw [Nat.mul_one] at ea
      have : (cs.drop i)[0]? = some (.int .u8 a) := by
        have h0 : ((cs.drop i).take 1)[0]? = some (.int .u8 a) := by rw [ea]; rfl
        simpa using h0
      simpa using this
    · exact mapM_bytes he L ys hys i hi

theorem list_bytes (cs : List Value) (h : ∀ i, i < cs.length → ∃ a : Int, (0 ≤ a ∧ a ≤ 255) ∧ cs[i]? = some (.int .u8 a)) : ∃ id : List Int, cs = nums id ∧ Bys id := by
  induction cs with
  | nil => exact ⟨[], rfl, fun x hx => by cases hx⟩
  | cons c cs ih =>
    obtain ⟨a, ha, hc⟩ := h 0 (by simp)
    obtain ⟨id, e, hb⟩ := ih (fun i hi => by obtain ⟨x, hx, hxc⟩ := h (i + 1) (by simp; omega); exact ⟨x, hx, by simpa using hxc⟩)
    simp only [List.getElem?_cons_zero, Option.some.injEq] at hc
    refine ⟨a :: id, by rw [e, hc]; rfl, fun x hx => ?_⟩
    rcases List.mem_cons.1 hx with rfl | hx
    · exact ha
    · exact hb x hx

theorem open_id {r : Reach} {b0 : Nat} {k e : TypeId} (hu : P.underlying k = some (.array 12 e)) (he : P.underlying e = some (.int .u8)) (hC : P.cellsOf k = 12) (hE : P.cellsOf e = 1) {v : Value} {d : DataW H} {p : List MemPlace}
    (hv : Value.okWide P w r b0 k v) (h : DataW.Trod enc P w base spare held k v d p) : ∃ id : List Int, v = idV id ∧ id.length = 12 ∧ Bys id := by
  simp only [Value.okWide, hu] at hv
  obtain ⟨cs, rfl, hcs, -⟩ := hv
  obtain ⟨fuel, hf⟩ := h
  cases fuel with
  | zero => simp [DataW.trod] at hf
  | succ m =>
    rw [DataW.trod_step] at hf
    unfold DataW.trodStep at hf
    simp only [hu, Value.cells] at hf
    rw [if_pos (by rw [hC]; simpa [hC] using hcs)] at hf
    simp only [Option.map_eq_some_iff] at hf
    obtain ⟨ys, hy, -⟩ := hf
    rw [hE] at hy
    have hall := mapM_bytes he _ ys hy
    have hlen : cs.toList.length = 12 := by simpa [hC] using hcs
    obtain ⟨id, e1, hb⟩ := list_bytes cs.toList (fun i hi => hall i (by simp; omega))
    refine ⟨id, ?_, ?_, hb⟩
    · show Value.agg cs = Value.agg (nums id).toArray
      rw [← e1]
    · rw [e1, nums_length] at hlen; exact hlen
end
end Go.Proofs.YthgghgejndncnaaGreat

/- WHAT CAME IN: an attribute by value. -/
namespace Go.Proofs.YthgghgejndncnaaGreat
open Go.Joins Go.ChangeShapes Go.WideShapes Go.ChangeAt Go.RowKit
set_option linter.unusedSimpArgs false
set_option linter.unusedVariables false

theorem open_bytes {H : Type} {enc : TypeId × Value → H} {W : World} {n : Nat} {v : Value} {y : DataW H × List MemPlace} (h : DataW.trod enc Tryz.prog W 0 (fun _ => true) true n 24 [v] = some y) :
    ∃ (A : Option Addr) (l c : Nat) (xs : List Int), v = .slice A l c ∧ xs.length = l ∧ l ≤ c ∧ Bys xs ∧ Rd W A xs := by
  obtain ⟨A, l, c, zs, rfl, w1⟩ : ∃ (A : Option Addr) (l c : Nat) (zs : List Int), v = .slice A l c ∧ IsRow .u8 W A l c zs := by
    rcases open_ints Tryz.underlying24 Tryz.underlying5 (by kernel_rfl) h with ⟨hcs, _⟩ | ⟨x, l, c, zs, hcs, _, hl, hm, hz, _, hcell, hwz⟩
    · simp at hcs
      exact ⟨none, 0, 0, [], hcs, .inl ⟨rfl, rfl, rfl, rfl⟩⟩
    · simp at hcs
      exact ⟨some x, l, c, zs, hcs, .inr ⟨_, rfl, hl, hm, by simpa using hz, hcell, hwz⟩⟩
  exact ⟨A, l, c, zs.take l, rfl, (isRow_len w1).1, (isRow_len w1).2, isRow_bys w1, isRow_rd w1⟩

set_option maxRecDepth 100000 in
theorem open_att {H : Type} {enc : TypeId × Value → H} {W : World} {r : Reach} {b0 : Nat} {v : Value} {d : DataW H} {p : List MemPlace} (hv : Value.okWide Tryz.prog W r b0 26 v) (h : DataW.Trod enc Tryz.prog W 0 (fun _ => true) true 26 v d p) :
    ∃ (N : Int) (aA : Option Addr) (an ac : Nat) (ax : List Int) (P : Int) (dA : Option Addr) (dn dc : Nat) (dx : List Int), v = atV N aA an ac P dA dn dc ∧ (0 ≤ N ∧ N ≤ 4294967295) ∧ ax.length = an ∧ an ≤ ac ∧ Bys ax ∧ Rd W aA ax ∧ dx.length = dn ∧ dn ≤ dc ∧ Bys dx ∧ Rd W dA dx := by
  obtain ⟨v0, v1, v2, v3, y0, y1, y2, y3, n, rfl, -, -, h0, h1, h2, h3⟩ := open_agg4 Tryz.underlying26 (by kernel_rfl) (by kernel_rfl) hv h
  obtain ⟨N, e0, -, w0⟩ := DataW.trod_int Tryz.underlying23 h0
  obtain ⟨P, e2, -, -⟩ := DataW.trod_int Tryz.underlying3 h2
  simp at e0 e2
  subst e0 e2
  obtain ⟨aA, an, ac, ax, rfl, a1, a2, a3, a4⟩ := open_bytes h1
  obtain ⟨dA, dn, dc, dx, rfl, c1, c2, c3, c4⟩ := open_bytes h3
  refine ⟨N, aA, an, ac, ax, P, dA, dn, dc, dx, rfl, ?_, a1, a2, a3, a4, c1, c2, c3, c4⟩
  have := bounds_u32 w0
  omega
end Go.Proofs.YthgghgejndncnaaGreat
