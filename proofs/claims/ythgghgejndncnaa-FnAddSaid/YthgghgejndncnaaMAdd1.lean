/- what '(*Message).Add' leans on: grow, whichever way; slices of a known row; copy into a message under construction. -/
import Derived.Test.YthgghgejndncnaaWr
import Derived.Test.YthgghgejndncnaaRaw
namespace Go.Proofs.Ythgghgejndncnaa
open Go.RowKit
set_option linter.unusedSimpArgs false
set_option linter.unusedVariables false

theorem mgrow_any (g rb : Nat) (L : Int) (id : List Int) (at_ : Value) (n : Nat) (bs : List Int) (w : World) (h : RawMsg w g rb L id at_ n bs) (m : Int) (n' : Nat) (hm : (n' : Int) = m) (hsm : n' ≤ 100000) :
    Calls Try.prog 66 #[.pointer (some ⟨g, 0, none⟩), .int .i64 m] w fun e w' => e = .returned (.tuple #[]) ∧ ∃ rb' n2 bs', RawMsg w' g rb' L id at_ n2 bs' ∧ n' ≤ n2 ∧ bs'.take n = bs.take n ∧ bs.length ≤ bs'.length ∧ (rb' = rb ∨ w.heap.size ≤ rb') ∧ Kept [g] w w' := by
  subst hm
  rcases Nat.lt_or_ge n n' with h1 | h1
  · rcases Nat.lt_or_ge bs.length n' with h2 | h2
    · refine (mgrow_grow g rb L id at_ n n' bs w h h1 h2 hsm).mono ?_
      rintro e w' ⟨rfl, rb', bs', hr, ht, hs, hk⟩
      exact ⟨rfl, rb', n', bs', hr, Nat.le_refl _, ht, by have := hr.2.2.1; omega, .inr hs, hk⟩
    · refine (mgrow_room g rb L id at_ n n' bs w h h1 h2).mono ?_
      rintro e w' ⟨rfl, hr, hk⟩
      exact ⟨rfl, rb, n', bs, hr, Nat.le_refl _, rfl, Nat.le_refl _, .inl rfl, hk⟩
  · refine (mgrow_no g rb L id at_ n n' bs w h h1).mono ?_
    rintro e w' ⟨rfl, rfl⟩
    exact ⟨rfl, rb, n, bs, h, h1, rfl, Nat.le_refl _, .inl rfl, Kept.refl _ _⟩

/-- 'x[lo:hi]' of a slice whose address is known -/
theorem sl_mid (b o n c lo hi k : Nat) (li hii : Int) (e1 : li = lo) (e2 : hii = hi) (hk : hi = lo + k) (h2 : hi ≤ c) (h3 : lo < c) (W : World) :
    (Instr.slice 24 (.slice (some ⟨b, o, none⟩) n c) (some (.int .i64 li)) (some (.int .i64 hii)) none).run Try.prog W = .ok (.slice (some ⟨b, o + lo, none⟩) k (c - lo)) W := by
  obtain ⟨i0, hi0, hz0, hz1, hz2⟩ := info_parts info_u8
  subst e1 e2 hk
  have hel : Try.prog.elem 24 = 5 := by simp [Program.elem, Try.underlying24]
  have hu : Try.prog.underlying 24 = some (.slice (Try.prog.elem 24)) := by rw [hel]; exact Try.underlying24
  rw [run_slice_lh W 24 (some ⟨b, o, none⟩) n c hu .i64 .i64 (lo : Int) ((lo + k : Nat) : Int) (by omega) (by omega) (by omega), hel]
  have hk0 : ((lo : Int) + (k : Int)).toNat - lo = k := by omega
  have hcl : ¬ c = lo := by omega
  simp [sizeOf, typeInfo, hi0, hz1, sliced, Result.andThen, hk0, hcl, Addr.add_lit]

/-- 'x[lo:]' of a slice whose address is known -/
theorem sl_from (b o n c lo k : Nat) (li : Int) (e1 : li = lo) (hk : n = lo + k) (h2 : n ≤ c) (h3 : lo < c) (W : World) :
    (Instr.slice 24 (.slice (some ⟨b, o, none⟩) n c) (some (.int .i64 li)) none none).run Try.prog W = .ok (.slice (some ⟨b, o + lo, none⟩) k (c - lo)) W := by
  obtain ⟨i0, hi0, hz0, hz1, hz2⟩ := info_parts info_u8
  subst e1 hk
  have hel : Try.prog.elem 24 = 5 := by simp [Program.elem, Try.underlying24]
  have hu : Try.prog.underlying 24 = some (.slice (Try.prog.elem 24)) := by rw [hel]; exact Try.underlying24
  rw [run_slice_l W 24 (some ⟨b, o, none⟩) (lo + k) c hu .i64 (lo : Int) (by omega) (by omega), hel]
  have hcl : ¬ c = lo := by omega
  simp [sizeOf, typeInfo, hi0, hz1, sliced, Result.andThen, hcl, Addr.add_lit]

/-- 'x[:hi]' of a slice whose address is known -/
theorem sl_to (b o n c hi : Nat) (hii : Int) (e2 : hii = hi) (h2 : hi ≤ c) (W : World) :
    (Instr.slice 24 (.slice (some ⟨b, o, none⟩) n c) none (some (.int .i64 hii)) none).run Try.prog W = .ok (.slice (some ⟨b, o, none⟩) hi c) W := by
  obtain ⟨i0, hi0, hz0, hz1, hz2⟩ := info_parts info_u8
  subst e2
  have hel : Try.prog.elem 24 = 5 := by simp [Program.elem, Try.underlying24]
  have hu : Try.prog.underlying 24 = some (.slice (Try.prog.elem 24)) := by rw [hel]; exact Try.underlying24
  rw [run_slice_h W 24 (some ⟨b, o, none⟩) n c hu .i64 (hi : Int) (by omega) (by omega), hel]
  simp [sizeOf, typeInfo, hi0, hz1, sliced, Result.andThen, Addr.add_lit]

/-- copy into a message under construction -/
theorem wpList_copy_raw {ops : Array Oper} {rest : List Oper} {o : Oper} {a : Act} {Q : Exit → Act → World → Prop} {w : World} (hgd : o.guard = none) (d s : Operand)
    (ho : o.op = .call { callee := .builtin .copy, args := #[d, s], argTypes := #[24, 24] }) (g rb : Nat) (L : Int) (id : List Int) (at_ : Value) (n : Nat) (bs : List Int) (h : RawMsg w g rb L id at_ n bs) (off l dCap c : Nat) (A : Option Addr) (v : List Int)
    (hd : a.eval d = .slice (some ⟨rb, off, none⟩) l dCap) (hs : a.eval s = .slice A l c) (hv : v.length = l) (hR : Rd w A v) (hoff : off + l ≤ bs.length)
    (hq : ∀ w', RawMsg w' g rb L id at_ n (bs.take off ++ v ++ bs.drop (off + v.length)) → Kept [rb] w w' → wpList Try.prog ops Q rest (a.put o.dst (goInt v.length)) w') :
    wpList Try.prog ops Q (o :: rest) a w := by
  rcases Nat.eq_zero_or_pos l with h0 | h0
  · subst h0
    obtain rfl : v = [] := List.eq_nil_of_length_eq_zero hv
    refine wpList_copy_nothing hgd d s 24 24 ho 5 Try.underlying24 (by kernel_rfl) _ _ _ _ _ _ hd hs (by simp) ?_
    exact hq w (by simpa using h) (Kept.refl _ _)
  · obtain ⟨b', o', rfl, -⟩ := hR (fun e => by subst e; simp at hv; omega)
    refine wpList_copy_own hgd d s 24 24 ho 5 Try.underlying24 (by kernel_rfl) rb off l dCap ⟨b', o', none⟩ l c hd hs (nums bs).toArray 5 h.2.1 (nums v) (by simp [nums_length, hv]) (rd_src hR) (by simp only [nums_length, List.size_toArray, hv]; exact hoff) (nums_one v) ?_
    rw [nums_length]
    have hk := kept_setRow w rb ((nums bs).toArray.toList.take off ++ (nums v ++ (nums bs).toArray.toList.drop (off + (nums v).length))).toArray
    have hr := setRow_nums (cs := v) h.2.1 off
    rw [nums_length] at hk hr
    have hlen : (bs.take off ++ v ++ bs.drop (off + v.length)).length = bs.length := by simp [hv]; omega
    have hm := h.1.kept hk (by simpa using fun e => h.2.2.2 e.symm)
    rw [← hlen] at hm
    exact hq _ ⟨hm, hr, by rw [hlen]; exact h.2.2.1, h.2.2.2⟩ hk
end Go.Proofs.Ythgghgejndncnaa
