/- THE FIRST CONTRACTS: numbers of channels. -/
import Derived.Test.YthgghgejndncnaaGreatRows
import Derived.WalkKit
import Derived.WalkSpells
import Derived.WalkLawsBesides
import Derived.Laws.BitsAllLaws
import Derived.Laws.DeepBits32
import Derived.Maps.AppendAt
import Derived.Laws.OwnMore
import Derived.Deep.Draws
import Derived.Lib.Hide
import Derived.Handy
namespace Go.Proofs.YthgghgejndncnaaGreat
open Go.RowKit
set_option linter.unusedSimpArgs false
set_option linter.unusedVariables false

theorem ret_int {k : IntKind} {a b : Int} (h : a = b) : Ending.returned (.int k a) = .returned (.int k b) := by rw [h]

/-- 'isChannelNumberValid(c)' -/
theorem isCN_any (n : Int) (w : World) :
    Calls Tryz.prog 48 #[.int .u16 n] w fun e w' => e = .returned (.bool (decide (16384 ≤ n) && decide (n ≤ 32767))) ∧ w = w' := by
  by_cases h : 16384 ≤ n
  · have hd : decide (16384 ≤ n) = true := decide_eq_true h
    go_enter Tryz.func48, Tryz.ntmps48
    go_wp2
    go_ret
    exact ⟨by simp [hd], rfl⟩
  · have hd : decide (16384 ≤ n) = false := decide_eq_false h
    go_enter Tryz.func48, Tryz.ntmps48
    go_wp2
    go_ret
    exact ⟨by simp [hd], rfl⟩

/-- '(ChannelNumber).Valid' -/
theorem cnValid_any (n : Int) (w : World) :
    Calls Tryz.prog 24 #[.int .u16 n] w fun e w' => e = .returned (.bool (decide (16384 ≤ n) && decide (n ≤ 32767))) ∧ w = w' := by
  go_enter Tryz.func24, Tryz.ntmps24
  go_wp2_with (go_at_call 48; refine (isCN_any _ _).mono ?_; rintro e w' ⟨rfl, rfl⟩)
  go_ret
  exact ⟨rfl, rfl⟩

/-- 'impl.ValidChannel(n)' of a number of sixteen bits -/
theorem vChannel_in (n : Int) (w : World) (h0 : 0 ≤ n) (h1 : n ≤ 65535) :
    Calls Tryz.prog 12 #[.int .i64 n] w fun e w' => e = .returned (.bool (decide (16384 ≤ n) && decide (n ≤ 32767))) ∧ w = w' := by
  go_enter Tryz.func12, Tryz.ntmps12
  go_wp2_with (go_at_call 24; refine (cnValid_any _ _).mono ?_; rintro e w' ⟨rfl, rfl⟩)
  go_ret
  exact ⟨rfl, rfl⟩

/-- 'works()' -/
theorem works_true (w : World) :
    Calls Tryz.prog 6 #[] w fun e w' => e = .returned (.bool true) ∧ w = w' := by
  go_enter Tryz.func6, Tryz.ntmps6
  go_wp2_with (go_at_call 12; refine (vChannel_in _ _ (by omega) (by omega)).mono ?_; rintro e w' ⟨rfl, rfl⟩)
  go_ret
  exact ⟨rfl, rfl⟩

end Go.Proofs.YthgghgejndncnaaGreat

/- PLAIN ARITHMETIC: bytes put together and taken apart. -/
namespace Go.Proofs.YthgghgejndncnaaGreat
open Go.RowKit
set_option linter.unusedSimpArgs false
set_option linter.unusedVariables false

theorem wraps_u16 (n : Int) (h₀ : 0 ≤ n) (h₁ : n < 2 ^ 16) : IntKind.u16.wrap n = n := by rw [IntKind.wrap_u16]; omega
theorem wraps_u32 (n : Int) (h₀ : 0 ≤ n) (h₁ : n < 2 ^ 32) : IntKind.u32.wrap n = n := by rw [IntKind.wrap_u32]; omega
theorem wraps_i64 (n : Int) (h₀ : 0 ≤ n) (h₁ : n < 2 ^ 63) : IntKind.i64.wrap n = n := by rw [IntKind.wrap_i64]; omega

/-- the low part first -/
theorem bits_join' (k : IntKind) (j : Nat) (hj : j ≤ k.bits) (hk : ∀ n : Int, 0 ≤ n → n < 2 ^ j → k.wrap n = n) (i : Nat)
    (x y : Int) (hx₀ : 0 ≤ x) (hx : x % 2 ^ i = 0) (hx₁ : x < 2 ^ j) (hy₀ : 0 ≤ y) (hy : y < 2 ^ i) (hy₁ : y < 2 ^ j) : bits .or k y x = x + y := by
  rw [← bits_join k j hj hk i x y hx₀ hx hx₁ hy₀ hy hy₁]
  obtain ⟨a, rfl⟩ := Int.eq_ofNat_of_zero_le hx₀
  obtain ⟨b, rfl⟩ := Int.eq_ofNat_of_zero_le hy₀
  have ha : a < 2 ^ j := by exact_mod_cast hx₁
  have hb : b < 2 ^ j := by exact_mod_cast hy₁
  rw [(bits_nat k j hj hk a b ha hb).2, (bits_nat k j hj hk b a hb ha).2, Nat.or_comm]

theorem or16 (x y : Int) (hx : 0 ≤ x ∧ x ≤ 255) (hy : 0 ≤ y ∧ y ≤ 255) : bits .or .u16 y (x * 256) = x * 256 + y :=
  bits_join' .u16 16 (by decide) wraps_u16 8 (x * 256) y (by omega) (by omega) (by omega) (by omega) (by omega) (by omega)

theorem or32 (a b c d : Int) (ha : 0 ≤ a ∧ a ≤ 255) (hb : 0 ≤ b ∧ b ≤ 255) (hc : 0 ≤ c ∧ c ≤ 255) (hd : 0 ≤ d ∧ d ≤ 255) :
    bits .or .u32 (bits .or .u32 (bits .or .u32 d (c * 256)) (b * 65536)) (a * 16777216) = a * 16777216 + b * 65536 + c * 256 + d := by
  rw [bits_join' .u32 32 (by decide) wraps_u32 8 (c * 256) d (by omega) (by omega) (by omega) (by omega) (by omega) (by omega),
    bits_join' .u32 32 (by decide) wraps_u32 16 (b * 65536) (c * 256 + d) (by omega) (by omega) (by omega) (by omega) (by omega) (by omega),
    bits_join' .u32 32 (by decide) wraps_u32 24 (a * 16777216) (b * 65536 + (c * 256 + d)) (by omega) (by omega) (by omega) (by omega) (by omega) (by omega)]
  omega

theorem or_i64 (x y : Int) (hx : 0 ≤ x ∧ x ≤ 255) (hy : 0 ≤ y ∧ y ≤ 255) : bits .or .i64 (x * 256) y = x * 256 + y :=
  bits_join .i64 63 (by decide) wraps_i64 8 (x * 256) y (by omega) (by omega) (by omega) (by omega) (by omega) (by omega)

end Go.Proofs.YthgghgejndncnaaGreat

/- WORDS FOR MEMORY: a slice of bytes that reads as a list; a row of bytes of the call's own; what a call leaves as it was; append. -/
namespace Go.Proofs.YthgghgejndncnaaGreat
open Go.RowKit
set_option linter.unusedSimpArgs false
set_option linter.unusedVariables false

/-- bytes as cells -/
def nums (xs : List Int) : List Value := xs.map (Value.int .u8)
theorem nums_length (xs : List Int) : (nums xs).length = xs.length := by simp [nums]
theorem nums_append (xs ys : List Int) : nums (xs ++ ys) = nums xs ++ nums ys := by simp [nums]
theorem nums_one (xs : List Int) : ∀ u ∈ nums xs, u.oneCell' = true := ints_oneCell .u8 xs
theorem nums_get {xs : List Int} {j : Nat} (h : j < xs.length) : (nums xs)[j]? = some (.int .u8 (xs.getD j 0)) := by
  simp [nums, List.getElem?_eq_getElem h]
theorem nums_inj {xs ys : List Int} (h : nums xs = nums ys) : xs = ys := by
  induction xs generalizing ys with
  | nil => cases ys with
    | nil => rfl
    | cons y ys => simp [nums] at h
  | cons x xs ih => cases ys with
    | nil => simp [nums] at h
    | cons y ys =>
      simp only [nums, List.map_cons, List.cons.injEq, Value.int.injEq, true_and] at h
      rw [h.1, ih h.2]

/-- A slice that reads as a list. -/
def Rd (w : World) (A : Option Addr) (xs : List Int) : Prop :=
  xs ≠ [] → ∃ b o, A = some ⟨b, o, none⟩ ∧ ∀ j, j < xs.length → w.cell? ⟨b, o + j, none⟩ = some (.int .u8 (xs.getD j 0))

/-- What a call leaves as it was: all blocks but those of S. -/
structure Kept (S : List Nat) (w w' : World) : Prop where
  os : w'.os = w.os
  tape : w'.tape = w.tape
  output : w'.output = w.output
  size : w.heap.size ≤ w'.heap.size
  block : ∀ k, k < w.heap.size → k ∉ S → w'.heap[k]? = w.heap[k]?

section
variable {w w' w'' : World} {S T : List Nat} {A : Option Addr} {xs : List Int}
theorem Kept.refl (S : List Nat) (w : World) : Kept S w w := ⟨rfl, rfl, rfl, Nat.le_refl _, fun _ _ _ => rfl⟩
theorem Kept.trans (h : Kept S w w') (k : Kept T w' w'') (hT : ∀ t ∈ T, t ∈ S ∨ w.heap.size ≤ t) : Kept S w w'' :=
  ⟨k.os.trans h.os, k.tape.trans h.tape, k.output.trans h.output, Nat.le_trans h.size k.size,
    fun i hi hn => (k.block i (Nat.lt_of_lt_of_le hi h.size) (fun ht => by rcases hT i ht with h1 | h1 <;> first | exact hn h1 | omega)).trans (h.block i hi hn)⟩
theorem Kept.mono (h : Kept S w w') (hS : ∀ t ∈ S, t ∈ T ∨ w.heap.size ≤ t) : Kept T w w' :=
  ⟨h.os, h.tape, h.output, h.size, fun i hi hn => h.block i hi (fun ht => by rcases hS i ht with h1 | h1 <;> first | exact hn h1 | omega)⟩
theorem Kept.drewN (h : Kept S w w') (n : Nat) : Kept S w (w'.drewN n) := ⟨h.os, h.tape, h.output, h.size, h.block⟩
theorem Kept.drew (h : Kept S w w') : Kept S w w'.drew := ⟨h.os, h.tape, h.output, h.size, h.block⟩
theorem Kept.alloc (h : Kept S w w') (o : Obj) : Kept S w (w'.alloc o) :=
  ⟨h.os, h.tape, h.output, by have := h.size; simp; omega, fun i hi hn => (Below.heap_alloc w' o i (Nat.lt_of_lt_of_le hi h.size)).trans (h.block i hi hn)⟩
theorem Kept.setCell (h : Kept S w w') {p : Addr} (hp : p.block ∈ S ∨ w.heap.size ≤ p.block) (u : Value) : Kept S w (w'.setCell p u) :=
  ⟨h.os, h.tape, h.output, by have := h.size; simpa using this, fun i hi hn => (Below.heap_setCell w' p u i (by rintro rfl; rcases hp with h1 | h1 <;> first | exact hn h1 | omega)).trans (h.block i hi hn)⟩
theorem Kept.of_below (h : Below w.heap.size w w') : Kept S w w' := ⟨h.os, h.tape, h.output, h.size, fun i hi _ => h.block i hi⟩
theorem Kept.of_grown {row : Option Nat} (h : w.grownBy w' row) (hr : ∀ g, row = some g → g ∈ S ∨ w.heap.size ≤ g) : Kept S w w' :=
  ⟨h.os, h.tape, h.output, h.size, fun i hi hn => h.block i hi (fun e => by rcases hr i e.symm with h1 | h1 <;> first | exact hn h1 | omega)⟩
theorem Kept.below (h : Kept S w w') (hS : ∀ t ∈ S, w.heap.size ≤ t) : Below w.heap.size w w' :=
  ⟨h.os, h.tape, h.output, h.size, fun i hi => h.block i hi (fun ht => by have := hS i ht; omega)⟩
theorem Kept.then_below (h : Kept S w w') (k : Below w.heap.size w' w'') : Kept S w w'' :=
  ⟨k.os.trans h.os, k.tape.trans h.tape, k.output.trans h.output, Nat.le_trans h.size k.size, fun i hi hn => (k.block i hi).trans (h.block i hi hn)⟩
theorem Kept.toBelow (h : Kept [] w w') : Below w.heap.size w w' := h.below (by simp)
theorem Kept.cell (h : Kept S w w') {p : Addr} {v : Value} (hc : w.cell? p = some v) (hp : p.block ∉ S) : w'.cell? p = some v :=
  (World.cell?_of_block (h.block p.block (World.block_lt_of_cell? w p hc) hp)).trans hc

theorem Rd.nil (w : World) (A : Option Addr) : Rd w A [] := fun h => absurd rfl h
theorem Rd.kept (h : Rd w A xs) (k : Kept S w w') (hA : ∀ a, A = some a → a.block ∉ S) : Rd w' A xs := fun hne => by
  obtain ⟨b, o, rfl, hc⟩ := h hne
  exact ⟨b, o, rfl, fun j hj => k.cell (hc j hj) (hA ⟨b, o, none⟩ rfl)⟩
theorem Rd.below (h : Rd w A xs) (k : Below w.heap.size w w') : Rd w' A xs := h.kept (Kept.of_below (S := []) k) (by simp)
theorem Rd.drewN (h : Rd w A xs) (n : Nat) : Rd (w.drewN n) A xs := h
theorem Rd.drew (h : Rd w A xs) : Rd w.drew A xs := h
theorem Rd.alloc (h : Rd w A xs) (o : Obj) : Rd (w.alloc o) A xs := h.kept ((Kept.refl [] w).alloc o) (by simp)
theorem Rd.setCell (h : Rd w A xs) (p : Addr) (u : Value) (hp : ∀ a, A = some a → a.block ≠ p.block) : Rd (w.setCell p u) A xs :=
  h.kept ((Kept.refl [p.block] w).setCell (.inl (by simp)) u) (fun a e => by simpa using hp a e)
theorem Rd.at_ (h : Rd w A xs) {j : Nat} (hj : j < xs.length) : ∃ b o, A = some ⟨b, o, none⟩ ∧ w.cell? ⟨b, o + j, none⟩ = some (.int .u8 (xs.getD j 0)) := by
  obtain ⟨b, o, e, hc⟩ := h (fun e => by subst e; simp at hj)
  exact ⟨b, o, e, hc j hj⟩
/-- 'x[lo:hi]', the address as the walk has it -/
theorem Rd.cut (h : Rd w A xs) {lo hi cap : Nat} (h1 : lo ≤ hi) (h2 : hi ≤ xs.length) (h3 : xs.length ≤ cap) :
    Rd w (if cap = lo then A else A.map (·.add lo)) ((xs.take hi).drop lo) := fun hne => by
  have hl : lo < hi := by
    rcases Nat.lt_or_ge lo hi with h | h
    · exact h
    · exact absurd (List.drop_eq_nil_of_le (by simp; omega)) hne
  obtain ⟨b, o, rfl, hc⟩ := h (fun e => by subst e; simp at h2; omega)
  rw [if_neg (by omega)]
  refine ⟨b, o + lo, ?_, fun j hj => ?_⟩
  · simp only [Option.map_some, Addr.add_lit]
  · have hj' : j < hi - lo := by simpa [Nat.min_eq_left h2] using hj
    rw [Nat.add_assoc, hc (lo + j) (by omega)]
    congr 2
    simp [List.getD_eq_getElem?_getD, List.getElem?_drop, List.getElem?_take, show lo + j < hi by omega]
end

/-- WHAT A ROW OF THE CALL'S OWN READS AS -/
theorem own_rd {w : World} {base e n : Nat} {v : Value} {xs : List Int} (h : w.ownsRow base e 1 v n (nums xs)) :
    xs.length = n ∧ ∃ A c, v = .slice A n c ∧ n ≤ c ∧ c ≤ maxLen ∧ Rd w A xs := by
  have hl : xs.length = n := by have := h.1; simpa [nums] using this
  refine ⟨hl, ?_⟩
  rcases h.2 with ⟨rfl, rfl⟩ | ⟨g, cap, cur, rfl, _, _, h1, h2, _⟩
  · exact ⟨none, 0, rfl, Nat.le_refl _, by simp [maxLen], fun hne => absurd (List.eq_nil_of_length_eq_zero hl) hne⟩
  · refine ⟨_, cap, rfl, h1, h2, fun _ => ⟨g, 0, rfl, fun j hj => ?_⟩⟩
    have := h.cells (g := g) rfl j _ (nums_get hj)
    rwa [Addr.add_lit] at this
theorem own_base {w : World} {base e size n : Nat} {v : Value} {xs : List Value} (h : w.ownsRow base e size v n xs) (k : Nat) (hk : v.ownBlock = some k) : base ≤ k := (h.lt k hk).1
theorem own_below {w w1 : World} {base n : Nat} {e : TypeId} {size : Nat} {v : Value} {xs : List Value} (h : w.ownsRow base e size v n xs) (hb : Below w.heap.size w w1) : w1.ownsRow base e size v n xs :=
  h.kept (row := none) ⟨hb.os, hb.tape, hb.output, hb.size, fun i hi _ => hb.block i hi⟩ (by cases v.ownBlock <;> simp)
theorem own_lower {w : World} {base base' n : Nat} {e : TypeId} {size : Nat} {v : Value} {xs : List Value} (h : w.ownsRow base e size v n xs) (hb : base' ≤ base) : w.ownsRow base' e size v n xs :=
  ⟨h.1, h.2.imp id (fun ⟨g, cap, cur, a, b, c⟩ => ⟨g, cap, cur, a, Nat.le_trans hb b, c⟩)⟩
theorem own_drewN {w : World} {base n : Nat} {e : TypeId} {size : Nat} {v : Value} {xs : List Value} (h : w.ownsRow base e size v n xs) (k : Nat) : (w.drewN k).ownsRow base e size v n xs := h
/-- a row of the call's own that has room: its block -/
theorem own_form {w : World} {base e n c : Nat} {A : Option Addr} {xs : List Int} (h : w.ownsRow base e 1 (.slice A n c) n (nums xs)) (hc : 0 < c) :
    ∃ g cur, A = some ⟨g, 0, none⟩ ∧ base ≤ g ∧ w.heap[g]? = some (.cells cur e (0, 0)) ∧ cur.size = c ∧ n ≤ c ∧ c ≤ maxLen ∧ cur.toList.take n = nums xs := by
  rcases h.2 with ⟨h1, _⟩ | ⟨g, cap, cur, h1, hb, hg, h2, h3, h4, h5⟩
  · injection h1 with _ _ h1
    omega
  · injection h1 with h1 _ h6
    subst h1 h6
    exact ⟨g, cur, rfl, hb, hg, by omega, h2, h3, by simpa using h5⟩
/-- four stores at a row's head -/
theorem take4_set (cur : Array Value) (h : 4 ≤ cur.size) (a b c d : Value) :
    ((((cur.setIfInBounds 0 a).setIfInBounds 1 b).setIfInBounds 2 c).setIfInBounds 3 d).toList.take 4 = [a, b, c, d] := by
  obtain ⟨l⟩ := cur
  match l, h with
  | x0 :: x1 :: x2 :: x3 :: r, _ => simp

/-- a block laid whole -/
theorem own_lit (W : World) (base : Nat) (xs : List Int) (hb : base ≤ W.heap.size) (hm : xs.length ≤ maxLen) :
    (W.alloc (.cells (nums xs).toArray 5)).ownsRow base 5 1 (.slice (some ⟨W.heap.size, 0, none⟩) xs.length xs.length) xs.length (nums xs) := by
  have h := World.ownsRow_lit (base := base) (e := 5) (size := 1) W (nums xs).toArray xs.length hb hm (by simp [nums])
  simpa using h

/-- a block laid whole, its number as the walk writes it; read -/
theorem own_new (W : World) (g base : Nat) (xs : List Int) (hg : g = W.heap.size) (hb : base ≤ W.heap.size) (hm : xs.length ≤ 1000000) :
    (W.alloc (.cells (nums xs).toArray 5)).ownsRow base 5 1 (.slice (some ⟨g, 0, none⟩) xs.length xs.length) xs.length (nums xs) := by
  subst hg
  exact own_lit W base xs hb (by simp only [maxLen]; omega)
theorem rd_new (W : World) (g : Nat) (xs : List Int) (hg : g = W.heap.size) : Rd (W.alloc (.cells (nums xs).toArray 5)) (some ⟨g, 0, none⟩) xs := fun _ =>
  ⟨g, 0, rfl, fun j hj => by
    subst hg
    rw [World.cell?_alloc_new]
    simp only [Nat.zero_add, List.getElem?_toArray]
    exact nums_get hj⟩

/-- u8's row of the table -/
theorem info_u8 : (Tryz.prog.info? 5).map (fun i => (i.zero, i.size, i.bytes)) = some (some (.int .u8 0), 1, 1) := by kernel_rfl

/-- append(v, ys...): v a row of the call's own, ys a slice that reads as a list -/
theorem run_app {P : Program} {t ty : TypeId} (ht : P.underlying t = some (.slice 5)) (hinfo : (P.info? 5).map (fun i => (i.zero, i.size, i.bytes)) = some (some (.int .u8 0), 1, 1)) (base : Nat) (W : World) (v : Value) (xs ys : List Int) (n m : Nat) (A : Option Addr) (c : Nat) (hn : xs.length = n) (hm : ys.length = m)
    (HO : W.ownsRow base 5 1 v n (nums xs)) (HR : Rd W A ys) (hbase : base ≤ W.heap.size) (hl : n + m ≤ 1000000) :
    ∃ v1 w1, (Builtin.append_ #[t, t] ty #[v, .slice A m c]).run P W = .ok v1 w1 ∧ w1.ownsRow base 5 1 v1 (n + m) (nums (xs ++ ys)) ∧ W.grownBy w1 v.ownBlock ∧ (v1.ownBlock = v.ownBlock ∨ v1.ownBlock = some W.heap.size) := by
  obtain ⟨i0, hi, hz0, hz1, hz2⟩ := info_parts hinfo
  rcases A with _ | ad
  · have h0 : ys = [] := by
      rcases List.eq_nil_or_concat ys with h | ⟨l, y, rfl⟩
      · exact h
      · obtain ⟨b, o, h, _⟩ := HR (by simp)
        cases h
    subst h0
    obtain rfl : m = 0 := by simpa using hm.symm
    refine ⟨v, W, ?_, by simpa using HO, World.grownBy.refl W _, .inl rfl⟩
    rcases HO.2 with ⟨rfl, hn⟩ | ⟨g, cap, cur, rfl, _, _, hnc, _⟩
    · simp [Builtin.append_, run_underlying ht, sizeOf, typeInfo, hi, Builtin.lenOf, Builtin.firstCells]
    · simp [Builtin.append_, run_underlying ht, sizeOf, typeInfo, hi, Builtin.lenOf, Builtin.firstCells, hnc, storeCells]
  · have hcells : ∀ j u, (nums ys)[j]? = some u → W.cell? (ad.add j) = some u := by
      intro j u hu
      have hj : j < ys.length := by
        rcases Nat.lt_or_ge j ys.length with h | h
        · exact h
        · rw [List.getElem?_eq_none (by rw [nums_length]; exact h)] at hu; cases hu
      obtain ⟨b, o, h', hc⟩ := HR.at_ hj
      injection h' with h'
      subst h'
      rw [nums_get hj] at hu
      rw [Addr.add_lit, hc, hu]
    obtain ⟨v1, w1, hr, h2, h3, _, h5⟩ := run_append_own_at (P := P) W base t ty 5 i0 (.int .u8 0) 1 1 ht hi hz0 hz1 hz2 rfl (by omega) v n (nums xs) HO ad m c (nums ys) (by rw [nums_length]; omega) hcells
      (nums_one ys) (by simp only [maxLen]; omega) (by omega) hbase
    exact ⟨v1, w1, hr, by rw [nums_append]; exact h2, h3, h5⟩

section
variable {ops : Array Oper} {rest : List Oper} {o : Oper} {a : Act} {Q : Exit → Act → World → Prop}
/-- behind 'at_builtin' -/
theorem wp_app {t : TypeId} (ht : Tryz.prog.underlying t = some (.slice 5)) (base : Nat) (W : World) (hgd : o.guard = none) (s x : Operand)
    (ho : o.op = .call { callee := .builtin .append, args := #[s, x], argTypes := #[t, t] })
    (v : Value) (xs ys : List Int) (n m : Nat) (A : Option Addr) (c : Nat) (hn : xs.length = n) (hm : ys.length = m) (hs : a.eval s = v) (hx : a.eval x = .slice A m c)
    (HO : W.ownsRow base 5 1 v n (nums xs)) (HR : Rd W A ys) (hbase : base ≤ W.heap.size) (hl : n + m ≤ 1000000)
    (w0 : World) (HB : Below base w0 W)
    (h : ∀ v1 w1, w1.ownsRow base 5 1 v1 (n + m) (nums (xs ++ ys)) → Below base w0 w1 → Hid (W.grownBy w1 v.ownBlock ∧ (v1.ownBlock = v.ownBlock ∨ v1.ownBlock = some W.heap.size)) → wpList Tryz.prog ops Q rest (a.put o.dst v1) w1) :
    wpList Tryz.prog ops Q (o :: rest) a W := by
  obtain ⟨v1, w1, hr, hown, hg, hat⟩ := run_app (ty := o.type) ht info_u8 base W v xs ys n m A c hn hm HO HR hbase hl
  refine wpList_plain hgd fun K hK => ?_
  unfold Oper.wp execOp
  simp only [ho, resolve, invoke, builtin, Sem.run_bind, Sem.run_pure, Result.andThen_ok, List.map_toArray, List.map_cons, List.map_nil, hs, hx, hr]
  exact hK _ _ (h v1 w1 hown (HB.grown hg hbase (own_base HO)) ⟨hg, hat⟩)
end

/-- the same as a step of a region that draws its order -/
theorem step_app {ops : Array Oper} {o : Oper} {a : Act} {K : Act → World → Prop} {Q : Exit → Act → World → Prop} {E : Prop} {t : TypeId} (ht : Tryz.prog.underlying t = some (.slice 5)) (base : Nat) (W : World) (hgd : o.guard = none) (s x : Operand)
    (ho : o.op = .call { callee := .builtin .append, args := #[s, x], argTypes := #[t, t] })
    (v : Value) (xs ys : List Int) (n m : Nat) (A : Option Addr) (c : Nat) (hn : xs.length = n) (hm : ys.length = m) (hs : a.eval s = v) (hx : a.eval x = .slice A m c)
    (HO : W.ownsRow base 5 1 v n (nums xs)) (HR : Rd W A ys) (hbase : base ≤ W.heap.size) (hl : n + m ≤ 1000000)
    (h : ∀ v1 w1, w1.ownsRow base 5 1 v1 (n + m) (nums (xs ++ ys)) → Hid (W.grownBy w1 v.ownBlock ∧ (v1.ownBlock = v.ownBlock ∨ v1.ownBlock = some W.heap.size)) → K (a.put o.dst v1) w1) :
    if Region.wanted o (yielded ops a.tmps) = true then Oper.wp Tryz.prog o a W K Q else E := by
  have hw : Region.wanted o (yielded ops a.tmps) = true := by simp [Region.wanted, hgd]
  rw [if_pos hw]
  obtain ⟨v1, w1, hr, hown, hg, hat⟩ := run_app (ty := o.type) ht info_u8 base W v xs ys n m A c hn hm HO HR hbase hl
  unfold Oper.wp execOp
  simp only [ho, resolve, invoke, builtin, Sem.run_bind, Sem.run_pure, Result.andThen_ok, List.map_toArray, List.map_cons, List.map_nil, hs, hx, hr]
  exact h v1 w1 hown ⟨hg, hat⟩

/-! ### cuts of a slice that reads as a list: the new address is a letter -/
theorem add_back {A : Option Addr} {k : Nat} {a : Addr} (h : A.map (·.add k) = some a) : ∃ a0, A = some a0 ∧ a0.block = a.block := by
  cases A with
  | none => cases h
  | some a0 =>
    refine ⟨a0, rfl, ?_⟩
    simp only [Option.map_some, Option.some.injEq] at h
    subst h
    unfold Addr.add
    split <;> rfl

/-- 'x[lo:hi]' -/
theorem cut_mid {P : Program} {t : TypeId} (ht : P.underlying t = some (.slice 5)) (hinfo : (P.info? 5).map (fun i => (i.zero, i.size, i.bytes)) = some (some (.int .u8 0), 1, 1))
    (A : Option Addr) (n c lo hi k : Nat) (li hii : Int) (e1 : li = lo) (e2 : hii = hi) (hk : hi = lo + k) (h2 : hi ≤ n) (h3 : n ≤ c) :
    ∃ A' : Option Addr, (∀ W : World, (Instr.slice t (.slice A n c) (some (.int .i64 li)) (some (.int .i64 hii)) none).run P W = .ok (.slice A' k (c - lo)) W) ∧
      (∀ (w : World) (xs : List Int), xs.length = n → Rd w A xs → Rd w A' ((xs.drop lo).take k)) ∧ (∀ a, A' = some a → ∃ a0, A = some a0 ∧ a0.block = a.block) := by
  obtain ⟨i0, hi0, hz0, hz1, hz2⟩ := info_parts hinfo
  subst e1 e2 hk
  refine ⟨if c = lo then A else A.map (·.add lo), fun W => ?_, fun w xs hn h => ?_, fun a h => ?_⟩
  · have hel : P.elem t = 5 := by simp [Program.elem, ht]
    have hu : P.underlying t = some (.slice (P.elem t)) := by rw [hel]; exact ht
    rw [run_slice_lh W t A n c hu .i64 .i64 (lo : Int) ((lo + k : Nat) : Int) (by omega) (by omega) (by omega), hel]
    have hk0 : ((lo : Int) + (k : Int)).toNat - lo = k := by omega
    simp [sizeOf, typeInfo, hi0, hz1, sliced, Result.andThen, hk0]
  · have := h.cut (lo := lo) (hi := lo + k) (cap := c) (by omega) (by omega) (by omega)
    rwa [List.drop_take, Nat.add_sub_cancel_left] at this
  · split at h
    · exact ⟨a, h, rfl⟩
    · exact add_back h

/-- 'x[m:]' -/
theorem cut_from {P : Program} {t : TypeId} (ht : P.underlying t = some (.slice 5)) (hinfo : (P.info? 5).map (fun i => (i.zero, i.size, i.bytes)) = some (some (.int .u8 0), 1, 1))
    (A : Option Addr) (n c m : Nat) (mi : Int) (e1 : mi = m) (h2 : m ≤ n) (h3 : n ≤ c) :
    ∃ A' : Option Addr, (∀ W : World, (Instr.slice t (.slice A n c) (some (.int .i64 mi)) none none).run P W = .ok (.slice A' (n - m) (c - m)) W) ∧
      (∀ (w : World) (xs : List Int), xs.length = n → Rd w A xs → Rd w A' (xs.drop m)) ∧ (∀ a, A' = some a → ∃ a0, A = some a0 ∧ a0.block = a.block) := by
  obtain ⟨i0, hi0, hz0, hz1, hz2⟩ := info_parts hinfo
  subst e1
  refine ⟨if c = m then A else A.map (·.add m), fun W => ?_, fun w xs hn h => ?_, fun a h => ?_⟩
  · have hel : P.elem t = 5 := by simp [Program.elem, ht]
    have hu : P.underlying t = some (.slice (P.elem t)) := by rw [hel]; exact ht
    rw [run_slice_l W t A n c hu .i64 (m : Int) (by omega) (by omega), hel]
    simp [sizeOf, typeInfo, hi0, hz1, sliced, Result.andThen]
  · have := h.cut (lo := m) (hi := n) (cap := c) (by omega) (by omega) (by omega)
    rwa [← hn, List.take_length] at this
  · split at h
    · exact ⟨a, h, rfl⟩
    · exact add_back h

/-- 'x[:m]' -/
theorem cut_to {P : Program} {t : TypeId} (ht : P.underlying t = some (.slice 5)) (hinfo : (P.info? 5).map (fun i => (i.zero, i.size, i.bytes)) = some (some (.int .u8 0), 1, 1))
    (A : Option Addr) (n c m : Nat) (mi : Int) (e1 : mi = m) (h2 : m ≤ n) (h3 : n ≤ c) :
    (∀ W : World, (Instr.slice t (.slice A n c) none (some (.int .i64 mi)) none).run P W = .ok (.slice A m c) W) ∧
      (∀ (w : World) (xs : List Int), xs.length = n → Rd w A xs → Rd w A (xs.take m)) := by
  obtain ⟨i0, hi0, hz0, hz1, hz2⟩ := info_parts hinfo
  subst e1
  refine ⟨fun W => ?_, fun w xs hn h => ?_⟩
  · have hel : P.elem t = 5 := by simp [Program.elem, ht]
    have hu : P.underlying t = some (.slice (P.elem t)) := by rw [hel]; exact ht
    rw [run_slice_h W t A n c hu .i64 (m : Int) (by omega) (by omega), hel]
    cases A <;> simp [sizeOf, typeInfo, hi0, hz1, sliced, Result.andThen, Addr.add]
  · intro hne
    obtain ⟨b, o, rfl, hc⟩ := h (fun e => by subst e; simp at hne)
    refine ⟨b, o, rfl, fun j hj => ?_⟩
    have hj' : j < m := by simp at hj; omega
    rw [hc j (by simp at hj; omega)]
    congr 2
    simp [List.getD_eq_getElem?_getD, List.getElem?_take, hj']

/-- 'string(x)' -/
theorem conv_rd {P : Program} {src dst : TypeId} (hs : P.underlying src = some (.slice 5)) (he : P.underlying 5 = some (.int .u8)) (hd : P.underlying dst = some .string) {w : World} {A : Option Addr} {n c : Nat} {xs : List Int} (hn : xs.length = n) (h : Rd w A xs) :
    (convert src dst (.slice A n c)).run P w = .ok (.string (strOfNums xs)) w := by
  by_cases h0 : xs = []
  · subst h0
    obtain rfl : n = 0 := by simpa using hn.symm
    cases A with
    | none => exact run_convert_bytes_nil w src 5 hs he 0 c dst hd
    | some a =>
      rw [run_convert_bytes_string w src dst 5 (some a) 0 c hs he hd]
      rw [run_bytesToString w a 0 c [] (by simp [loadCells, loadCellsFrom])]
      simp [strOfNums]
      rfl
  · obtain ⟨b, o, rfl, hc⟩ := h h0
    exact run_convert_bytes_arg w src 5 hs he b o n c xs hn (fun i hi => hc i (by omega)) dst hd

/-! ### a block known whole -/
theorem blk_cell {w : World} {g : Nat} {cs : Array Value} {t : TypeId} {fr : Nat × Nat} (h : w.heap[g]? = some (.cells cs t fr)) (i : Nat) : w.cell? ⟨g, i, none⟩ = cs[i]? := cell_of_row w g i cs t fr h
theorem blk_free {w : World} {g : Nat} {cs : Array Value} {t : TypeId} (h : w.heap[g]? = some (.cells cs t (0, 0))) (i : Nat) : w.frozen? ⟨g, i, none⟩ = false := by
  simp [World.frozen?, h]
theorem blk_lt {w : World} {g : Nat} {o : Obj} (h : w.heap[g]? = some o) : g < w.heap.size := (Array.getElem?_eq_some_iff.1 h).1
theorem blk_set {w : World} {g : Nat} {cs : Array Value} {t : TypeId} {fr : Nat × Nat} (h : w.heap[g]? = some (.cells cs t fr)) (i : Nat) (u : Value) :
    (w.setCell ⟨g, i, none⟩ u).heap[g]? = some (.cells (cs.setIfInBounds i u) t fr) := by
  simp [World.setCell, Array.getElem?_modify, h]
theorem blk_far {w : World} {g : Nat} {o : Obj} (h : w.heap[g]? = some o) {p : Addr} (hp : g ≠ p.block) (u : Value) : (w.setCell p u).heap[g]? = some o :=
  (Below.heap_setCell w p u g hp).trans h
theorem blk_alloc {w : World} {g : Nat} {o : Obj} (h : w.heap[g]? = some o) (x : Obj) : (w.alloc x).heap[g]? = some o := (Below.heap_alloc w x g (blk_lt h)).trans h
theorem blk_kept {w w' : World} {S : List Nat} {g : Nat} {o : Obj} (h : w.heap[g]? = some o) (k : Kept S w w') (hg : g ∉ S) : w'.heap[g]? = some o := (k.block g (blk_lt h) hg).trans h
theorem blk_below {w w' : World} {g : Nat} {o : Obj} (h : w.heap[g]? = some o) (k : Below w.heap.size w w') : w'.heap[g]? = some o := (k.block g (blk_lt h)).trans h
theorem blk_grown {w w' : World} {g : Nat} {o : Obj} {row : Option Nat} (h : w.heap[g]? = some o) (k : w.grownBy w' row) (hg : ∀ b, row = some b → b ≠ g) : w'.heap[g]? = some o :=
  (k.block g (blk_lt h) (fun e => hg g e.symm rfl)).trans h
theorem blk_ne {w : World} {g g' : Nat} {cs cs' : Array Value} {t t' : TypeId} {fr fr' : Nat × Nat} (h : w.heap[g]? = some (.cells cs t fr)) (h' : w.heap[g']? = some (.cells cs' t' fr')) (hne : t ≠ t') : g ≠ g' := by
  rintro rfl
  rw [h] at h'
  injection h' with h'
  injection h' with _ ht
  exact hne ht

/-- a call of a function that has a body -/
theorem enters {P : Program} {f : FuncId} {fn : Func} {c : Code} (hf : P.funcs[f]? = some fn) (hname : (fn.name == "runtime.NumGoroutine") = false) (hb : fn.body = some c) (args : Array Value) (w : World) :
    (callFunc f args).run P w = .ok (.enter f args) w := by
  have h1 : fn.name ≠ "runtime.NumGoroutine" := by simpa using hname
  simp [callFunc, hf, h1, hb]

end Go.Proofs.YthgghgejndncnaaGreat

/- THE REFERENCE'S SMALL FUNCTIONS: put, cookie, Type; the padded length. -/
namespace Go.Proofs.YthgghgejndncnaaGreat
open Go.RowKit
set_option linter.unusedSimpArgs false
set_option linter.unusedVariables false

/-- 'spec.put(n, 2)' -/
theorem put2_any (v : Int) (w : World) (hv : 0 ≤ v ∧ v ≤ 4294967295) :
    Calls Tryz.prog 46 #[.int .u32 v, .int .i64 2] w fun e w' => e = .returned (.slice (some ⟨w.heap.size, 0, none⟩) 2 2) ∧ w' = w.alloc (.cells #[.int .u8 (v / 256 % 256), .int .u8 (v % 256)] 5) := by
  have hmk : ∀ w, (Instr.makeSlice 24 (.int .i64 2) (.int .i64 2)).run Tryz.prog w = .ok (.slice (some ⟨w.heap.size, 0, none⟩) 2 2) (w.alloc (.cells #[.int .u8 0, .int .u8 0] 5)) := fun _ => by kernel_rfl
  go_enter Tryz.func46, Tryz.ntmps46
  go_wp2
  go_rounds 3
  go_ret
  exact ⟨rfl, rfl⟩

/-- 'spec.put(n, 4)' -/
theorem put4_any (v : Int) (w : World) (hv : 0 ≤ v ∧ v ≤ 4294967295) :
    Calls Tryz.prog 46 #[.int .u32 v, .int .i64 4] w fun e w' => e = .returned (.slice (some ⟨w.heap.size, 0, none⟩) 4 4) ∧
      w' = w.alloc (.cells #[.int .u8 (v / 256 / 256 / 256), .int .u8 (v / 256 / 256 % 256), .int .u8 (v / 256 % 256), .int .u8 (v % 256)] 5) := by
  have hmk : ∀ w, (Instr.makeSlice 24 (.int .i64 4) (.int .i64 4)).run Tryz.prog w = .ok (.slice (some ⟨w.heap.size, 0, none⟩) 4 4) (w.alloc (.cells #[.int .u8 0, .int .u8 0, .int .u8 0, .int .u8 0] 5)) := fun _ => by kernel_rfl
  go_enter Tryz.func46, Tryz.ntmps46
  go_wp2
  go_rounds 5
  go_ret
  exact ⟨rfl, rfl⟩

/-- 'spec.cookie()' -/
theorem cookie_any (w : World) :
    Calls Tryz.prog 47 #[] w fun e w' => e = .returned (.slice (some ⟨w.heap.size, 0, none⟩) 4 4) ∧ w' = w.alloc (.cells #[.int .u8 33, .int .u8 18, .int .u8 164, .int .u8 66] 5) := by
  go_enter Tryz.func47, Tryz.ntmps47
  go_wp2
  go_ret
  exact ⟨rfl, rfl⟩

/-- the next multiple of four -/
def pad4 (l : Nat) : Nat := (l + 3) / 4 * 4

/-- 'nearestPaddedValueLength(l)' (stun) -/
theorem spad_any (m : Int) (l : Nat) (w : World) (hm : m = l) (hl : l ≤ 1000000) :
    Calls Tryz.prog 57 #[.int .i64 m] w fun e w' => e = .returned (.int .i64 (pad4 l)) ∧ w = w' := by
  subst hm
  by_cases h : 4 * ((l : Int) / 4) < l
  all_goals
    go_enter Tryz.func57, Tryz.ntmps57
    go_wp2
    go_ret
    exact ⟨ret_int (by unfold pad4; omega), rfl⟩

end Go.Proofs.YthgghgejndncnaaGreat

/- lists of bytes. -/
namespace Go.Proofs.YthgghgejndncnaaGreat
set_option linter.unusedSimpArgs false
set_option linter.unusedVariables false

/-- every member is a byte -/
def Bys (xs : List Int) : Prop := ∀ x ∈ xs, 0 ≤ x ∧ x ≤ 255
theorem Bys.at_ {xs : List Int} (h : Bys xs) (j : Nat) : 0 ≤ xs.getD j 0 ∧ xs.getD j 0 ≤ 255 := by
  rw [List.getD_eq_getElem?_getD]
  rcases Nat.lt_or_ge j xs.length with hj | hj
  · rw [List.getElem?_eq_getElem hj]; exact h _ (List.getElem_mem hj)
  · rw [List.getElem?_eq_none hj]; simp

theorem getD_take (xs : List Int) (m j : Nat) (h : j < m) : (xs.take m).getD j 0 = xs.getD j 0 := by
  simp [List.getD_eq_getElem?_getD, List.getElem?_take, h]

theorem Bys.append {xs ys : List Int} (h : Bys xs) (k : Bys ys) : Bys (xs ++ ys) := fun x hx => by
  rcases List.mem_append.1 hx with h1 | h1
  · exact h x h1
  · exact k x h1
theorem Bys.take {xs : List Int} (h : Bys xs) (m : Nat) : Bys (xs.take m) := fun x hx => h x (List.mem_of_mem_take hx)
theorem Bys.drop {xs : List Int} (h : Bys xs) (m : Nat) : Bys (xs.drop m) := fun x hx => h x (List.mem_of_mem_drop hx)
theorem Bys.zeros (m : Nat) : Bys (List.replicate m 0) := fun x hx => by
  obtain rfl := (List.mem_replicate.1 hx).2
  omega

end Go.Proofs.YthgghgejndncnaaGreat
