/- 'spec.Type'; 'spec.Value' of the kinds that are no addresses. -/
import Derived.Test.YthgghgejndncnaaGreatAtt
import Derived.Test.YthgghgejndncnaaGreatM1
namespace Go.Proofs.YthgghgejndncnaaGreat
open Go.RowKit
set_option linter.unusedSimpArgs false
set_option linter.unusedVariables false

def typeB (k : Int) : Int := if k = 0 then 12 else if k = 1 then 13 else if k = 2 then 18 else if k = 3 then 22 else if k = 4 then 19 else if k = 5 then 24 else if k = 6 then 34 else if k = 7 then 25 else if k = 8 then 23 else if k = 9 then 26 else 42

def put2 (v : Int) : List Int := [v / 256 % 256, v % 256]
def put4 (v : Int) : List Int := [v / 256 / 256 / 256, v / 256 / 256 % 256, v / 256 % 256, v % 256]
/-- the family of an address -/
def fam (n : Nat) : Int := if n = 16 then 2 else 1
def x8 (a b : Int) : Int := bits .xor .u8 a b
/-- what an address is masked by -/
def mask (id : List Int) : List Int := [33, 18, 164, 66] ++ id
def xorL (xs ys : List Int) : List Int := List.zipWith x8 xs ys
/-- the value of an attribute -/
def valB (k N : Int) (ax : List Int) (P : Int) (dx id : List Int) : List Int :=
  if k = 0 then put2 N ++ [0, 0]
  else if k = 1 then put4 N
  else if k = 2 then [0, fam ax.length, x8 (P / 256 % 256) 33, x8 (P % 256) 18] ++ xorL ax (mask id)
  else if k = 3 then [0, fam ax.length, x8 (P / 256 % 256) 33, x8 (P % 256) 18] ++ xorL ax (mask id)
  else if k = 4 then dx
  else if k = 5 then [N % 256 * 128 % 256]
  else if k = 6 then dx
  else if k = 7 then [N % 256, 0, 0, 0]
  else if k = 8 then [N % 256, 0, 0, 0]
  else if k = 9 then []
  else put4 N

/-- a value that is read as a list of bytes -/
def Reads (w : World) (v : Value) (xs : List Int) : Prop := ∃ A n c, v = .slice A n c ∧ xs.length = n ∧ n ≤ c ∧ Rd w A xs

@[reducible] def idV (id : List Int) : Value := .agg (nums id).toArray

theorem reads_own {w : World} {base e n : Nat} {v : Value} {xs : List Int} (h : w.ownsRow base e 1 v n (nums xs)) : Reads w v xs := by
  obtain ⟨hl, A, c, rfl, hc, _, hR⟩ := own_rd h
  exact ⟨A, n, c, rfl, hl, hc, hR⟩
theorem Reads.below {w w' : World} {v : Value} {xs : List Int} (h : Reads w v xs) (k : Below w.heap.size w w') : Reads w' v xs := by
  obtain ⟨A, n, c, e, hn, hc, hR⟩ := h
  exact ⟨A, n, c, e, hn, hc, hR.below k⟩

set_option maxHeartbeats 1000000 in
theorem value_0 (id : List Int) (N : Int) (aA : Option Addr) (an ac : Nat) (ax : List Int) (P : Int) (dA : Option Addr) (dn dc : Nat) (dx : List Int) (w : World) (hN : 0 ≤ N ∧ N ≤ 4294967295) (hd : dx.length = dn) (hdc : dn ≤ dc) (hR : Rd w dA dx) :
    Calls Tryz.prog 23 #[.int .i64 0, idV id, atV N aA an ac P dA dn dc] w fun e w' => ∃ v, e = .returned v ∧ Reads w' v (valB 0 N ax P dx id) ∧ Below w.heap.size w w' := by
  have HR := Lib.hid ((hR.alloc (.cells (nums id).toArray 22)).alloc (.cells #[.int .u32 N, .slice aA an ac, .int .i64 P, .slice dA dn dc] 34))
  have HD := Lib.hid hd
  have HB : Hid (Below w.heap.size w ((w.alloc (.cells (nums id).toArray 22)).alloc (.cells #[.int .u32 N, .slice aA an ac, .int .i64 P, .slice dA dn dc] 34))) := Lib.hid (((Below.refl _ _).alloc (Nat.le_refl _) _).alloc (by simp) _)
  clear hR hd
  go_enter Tryz.func23, Tryz.ntmps23
  go_wp2_with (first
    | (go_at_call 46; refine (put2_any _ _ hN).mono ?_; rintro e w' ⟨rfl, rfl⟩)
    | (at_builtin; refine wp_app Tryz.underlying24 (w.heap.size + 2) _ rfl (.tmp 18) (.tmp 19) rfl (.slice (some ⟨w.heap.size + 2, 0, none⟩) 2 2) (put2 N) [0, 0] 2 2 (some ⟨w.heap.size + 3, 0, none⟩) 2 rfl rfl rfl rfl ((own_new ((w.alloc (.cells (nums id).toArray 22)).alloc (.cells #[.int .u32 N, .slice aA an ac, .int .i64 P, .slice dA dn dc] 34)) _ _ (put2 N) (by simp) (by simp) (by simp [put2])).alloc _) (rd_new (World.alloc ((w.alloc (.cells (nums id).toArray 22)).alloc (.cells #[.int .u32 N, .slice aA an ac, .int .i64 P, .slice dA dn dc] 34)) _) _ [0, 0] (by simp)) (by simp) (by omega) _ (Below.refl _ _) ?_; intro v1 w1 hown1 hB1 hg1))
  go_ret
  exact ⟨_, rfl, reads_own hown1, HB.out.trans ((((Below.refl _ _).alloc (Nat.le_refl _) _).alloc (by simp) _).mono (by simp; omega) |>.trans (hB1.mono (by omega)))⟩

set_option maxHeartbeats 1000000 in
theorem value_1 (id : List Int) (N : Int) (aA : Option Addr) (an ac : Nat) (ax : List Int) (P : Int) (dA : Option Addr) (dn dc : Nat) (dx : List Int) (w : World) (hN : 0 ≤ N ∧ N ≤ 4294967295) (hd : dx.length = dn) (hdc : dn ≤ dc) (hR : Rd w dA dx) :
    Calls Tryz.prog 23 #[.int .i64 1, idV id, atV N aA an ac P dA dn dc] w fun e w' => ∃ v, e = .returned v ∧ Reads w' v (valB 1 N ax P dx id) ∧ Below w.heap.size w w' := by
  have HR := Lib.hid ((hR.alloc (.cells (nums id).toArray 22)).alloc (.cells #[.int .u32 N, .slice aA an ac, .int .i64 P, .slice dA dn dc] 34))
  have HD := Lib.hid hd
  have HB : Hid (Below w.heap.size w ((w.alloc (.cells (nums id).toArray 22)).alloc (.cells #[.int .u32 N, .slice aA an ac, .int .i64 P, .slice dA dn dc] 34))) := Lib.hid (((Below.refl _ _).alloc (Nat.le_refl _) _).alloc (by simp) _)
  clear hR hd
  go_enter Tryz.func23, Tryz.ntmps23
  go_wp2_with (go_at_call 46; refine (put4_any _ _ hN).mono ?_; rintro e w' ⟨rfl, rfl⟩)
  go_ret
  exact ⟨_, rfl, ⟨_, 4, 4, rfl, by simp [valB, put4], by omega, rd_new ((w.alloc (.cells (nums id).toArray 22)).alloc (.cells #[.int .u32 N, .slice aA an ac, .int .i64 P, .slice dA dn dc] 34)) _ (put4 N) (by simp)⟩, HB.out.alloc (by simp; omega) _⟩

set_option maxHeartbeats 1000000 in
theorem value_4 (id : List Int) (N : Int) (aA : Option Addr) (an ac : Nat) (ax : List Int) (P : Int) (dA : Option Addr) (dn dc : Nat) (dx : List Int) (w : World) (hN : 0 ≤ N ∧ N ≤ 4294967295) (hd : dx.length = dn) (hdc : dn ≤ dc) (hR : Rd w dA dx) :
    Calls Tryz.prog 23 #[.int .i64 4, idV id, atV N aA an ac P dA dn dc] w fun e w' => ∃ v, e = .returned v ∧ Reads w' v (valB 4 N ax P dx id) ∧ Below w.heap.size w w' := by
  have HR := Lib.hid ((hR.alloc (.cells (nums id).toArray 22)).alloc (.cells #[.int .u32 N, .slice aA an ac, .int .i64 P, .slice dA dn dc] 34))
  have HD := Lib.hid hd
  have HB : Hid (Below w.heap.size w ((w.alloc (.cells (nums id).toArray 22)).alloc (.cells #[.int .u32 N, .slice aA an ac, .int .i64 P, .slice dA dn dc] 34))) := Lib.hid (((Below.refl _ _).alloc (Nat.le_refl _) _).alloc (by simp) _)
  clear hR hd
  go_enter Tryz.func23, Tryz.ntmps23
  go_wp2_with fail
  go_ret
  exact ⟨_, rfl, ⟨_, _, _, rfl, HD.out, hdc, HR.out⟩, HB.out⟩

set_option maxHeartbeats 1000000 in
theorem value_5 (id : List Int) (N : Int) (aA : Option Addr) (an ac : Nat) (ax : List Int) (P : Int) (dA : Option Addr) (dn dc : Nat) (dx : List Int) (w : World) (hN : 0 ≤ N ∧ N ≤ 4294967295) (hd : dx.length = dn) (hdc : dn ≤ dc) (hR : Rd w dA dx) :
    Calls Tryz.prog 23 #[.int .i64 5, idV id, atV N aA an ac P dA dn dc] w fun e w' => ∃ v, e = .returned v ∧ Reads w' v (valB 5 N ax P dx id) ∧ Below w.heap.size w w' := by
  have HR := Lib.hid ((hR.alloc (.cells (nums id).toArray 22)).alloc (.cells #[.int .u32 N, .slice aA an ac, .int .i64 P, .slice dA dn dc] 34))
  have HD := Lib.hid hd
  have HB : Hid (Below w.heap.size w ((w.alloc (.cells (nums id).toArray 22)).alloc (.cells #[.int .u32 N, .slice aA an ac, .int .i64 P, .slice dA dn dc] 34))) := Lib.hid (((Below.refl _ _).alloc (Nat.le_refl _) _).alloc (by simp) _)
  clear hR hd
  go_enter Tryz.func23, Tryz.ntmps23
  go_wp2_with fail
  go_ret
  exact ⟨_, rfl, ⟨_, 1, 1, rfl, by simp [valB], by omega, rd_new ((w.alloc (.cells (nums id).toArray 22)).alloc (.cells #[.int .u32 N, .slice aA an ac, .int .i64 P, .slice dA dn dc] 34)) _ [N % 256 * 128 % 256] (by simp)⟩, HB.out.alloc (by simp; omega) _⟩

set_option maxHeartbeats 1000000 in
theorem value_6 (id : List Int) (N : Int) (aA : Option Addr) (an ac : Nat) (ax : List Int) (P : Int) (dA : Option Addr) (dn dc : Nat) (dx : List Int) (w : World) (hN : 0 ≤ N ∧ N ≤ 4294967295) (hd : dx.length = dn) (hdc : dn ≤ dc) (hR : Rd w dA dx) :
    Calls Tryz.prog 23 #[.int .i64 6, idV id, atV N aA an ac P dA dn dc] w fun e w' => ∃ v, e = .returned v ∧ Reads w' v (valB 6 N ax P dx id) ∧ Below w.heap.size w w' := by
  have HR := Lib.hid ((hR.alloc (.cells (nums id).toArray 22)).alloc (.cells #[.int .u32 N, .slice aA an ac, .int .i64 P, .slice dA dn dc] 34))
  have HD := Lib.hid hd
  have HB : Hid (Below w.heap.size w ((w.alloc (.cells (nums id).toArray 22)).alloc (.cells #[.int .u32 N, .slice aA an ac, .int .i64 P, .slice dA dn dc] 34))) := Lib.hid (((Below.refl _ _).alloc (Nat.le_refl _) _).alloc (by simp) _)
  clear hR hd
  go_enter Tryz.func23, Tryz.ntmps23
  go_wp2_with fail
  go_ret
  exact ⟨_, rfl, ⟨_, _, _, rfl, HD.out, hdc, HR.out⟩, HB.out⟩

set_option maxHeartbeats 1000000 in
theorem value_7 (id : List Int) (N : Int) (aA : Option Addr) (an ac : Nat) (ax : List Int) (P : Int) (dA : Option Addr) (dn dc : Nat) (dx : List Int) (w : World) (hN : 0 ≤ N ∧ N ≤ 4294967295) (hd : dx.length = dn) (hdc : dn ≤ dc) (hR : Rd w dA dx) :
    Calls Tryz.prog 23 #[.int .i64 7, idV id, atV N aA an ac P dA dn dc] w fun e w' => ∃ v, e = .returned v ∧ Reads w' v (valB 7 N ax P dx id) ∧ Below w.heap.size w w' := by
  have HR := Lib.hid ((hR.alloc (.cells (nums id).toArray 22)).alloc (.cells #[.int .u32 N, .slice aA an ac, .int .i64 P, .slice dA dn dc] 34))
  have HD := Lib.hid hd
  have HB : Hid (Below w.heap.size w ((w.alloc (.cells (nums id).toArray 22)).alloc (.cells #[.int .u32 N, .slice aA an ac, .int .i64 P, .slice dA dn dc] 34))) := Lib.hid (((Below.refl _ _).alloc (Nat.le_refl _) _).alloc (by simp) _)
  clear hR hd
  go_enter Tryz.func23, Tryz.ntmps23
  go_wp2_with fail
  go_ret
  exact ⟨_, rfl, ⟨_, 4, 4, rfl, by simp [valB], by omega, rd_new ((w.alloc (.cells (nums id).toArray 22)).alloc (.cells #[.int .u32 N, .slice aA an ac, .int .i64 P, .slice dA dn dc] 34)) _ [N % 256, 0, 0, 0] (by simp)⟩, HB.out.alloc (by simp; omega) _⟩

set_option maxHeartbeats 1000000 in
theorem value_8 (id : List Int) (N : Int) (aA : Option Addr) (an ac : Nat) (ax : List Int) (P : Int) (dA : Option Addr) (dn dc : Nat) (dx : List Int) (w : World) (hN : 0 ≤ N ∧ N ≤ 4294967295) (hd : dx.length = dn) (hdc : dn ≤ dc) (hR : Rd w dA dx) :
    Calls Tryz.prog 23 #[.int .i64 8, idV id, atV N aA an ac P dA dn dc] w fun e w' => ∃ v, e = .returned v ∧ Reads w' v (valB 8 N ax P dx id) ∧ Below w.heap.size w w' := by
  have HR := Lib.hid ((hR.alloc (.cells (nums id).toArray 22)).alloc (.cells #[.int .u32 N, .slice aA an ac, .int .i64 P, .slice dA dn dc] 34))
  have HD := Lib.hid hd
  have HB : Hid (Below w.heap.size w ((w.alloc (.cells (nums id).toArray 22)).alloc (.cells #[.int .u32 N, .slice aA an ac, .int .i64 P, .slice dA dn dc] 34))) := Lib.hid (((Below.refl _ _).alloc (Nat.le_refl _) _).alloc (by simp) _)
  clear hR hd
  go_enter Tryz.func23, Tryz.ntmps23
  go_wp2_with fail
  go_ret
  exact ⟨_, rfl, ⟨_, 4, 4, rfl, by simp [valB], by omega, rd_new ((w.alloc (.cells (nums id).toArray 22)).alloc (.cells #[.int .u32 N, .slice aA an ac, .int .i64 P, .slice dA dn dc] 34)) _ [N % 256, 0, 0, 0] (by simp)⟩, HB.out.alloc (by simp; omega) _⟩

set_option maxHeartbeats 1000000 in
theorem value_9 (id : List Int) (N : Int) (aA : Option Addr) (an ac : Nat) (ax : List Int) (P : Int) (dA : Option Addr) (dn dc : Nat) (dx : List Int) (w : World) (hN : 0 ≤ N ∧ N ≤ 4294967295) (hd : dx.length = dn) (hdc : dn ≤ dc) (hR : Rd w dA dx) :
    Calls Tryz.prog 23 #[.int .i64 9, idV id, atV N aA an ac P dA dn dc] w fun e w' => ∃ v, e = .returned v ∧ Reads w' v (valB 9 N ax P dx id) ∧ Below w.heap.size w w' := by
  have HR := Lib.hid ((hR.alloc (.cells (nums id).toArray 22)).alloc (.cells #[.int .u32 N, .slice aA an ac, .int .i64 P, .slice dA dn dc] 34))
  have HD := Lib.hid hd
  have HB : Hid (Below w.heap.size w ((w.alloc (.cells (nums id).toArray 22)).alloc (.cells #[.int .u32 N, .slice aA an ac, .int .i64 P, .slice dA dn dc] 34))) := Lib.hid (((Below.refl _ _).alloc (Nat.le_refl _) _).alloc (by simp) _)
  clear hR hd
  go_enter Tryz.func23, Tryz.ntmps23
  go_wp2_with fail
  go_ret
  exact ⟨_, rfl, ⟨_, 0, 0, rfl, by simp [valB], by omega, Rd.nil _ _⟩, HB.out⟩

set_option maxHeartbeats 1000000 in
theorem value_10 (id : List Int) (N : Int) (aA : Option Addr) (an ac : Nat) (ax : List Int) (P : Int) (dA : Option Addr) (dn dc : Nat) (dx : List Int) (w : World) (hN : 0 ≤ N ∧ N ≤ 4294967295) (hd : dx.length = dn) (hdc : dn ≤ dc) (hR : Rd w dA dx) :
    Calls Tryz.prog 23 #[.int .i64 10, idV id, atV N aA an ac P dA dn dc] w fun e w' => ∃ v, e = .returned v ∧ Reads w' v (valB 10 N ax P dx id) ∧ Below w.heap.size w w' := by
  have HR := Lib.hid ((hR.alloc (.cells (nums id).toArray 22)).alloc (.cells #[.int .u32 N, .slice aA an ac, .int .i64 P, .slice dA dn dc] 34))
  have HD := Lib.hid hd
  have HB : Hid (Below w.heap.size w ((w.alloc (.cells (nums id).toArray 22)).alloc (.cells #[.int .u32 N, .slice aA an ac, .int .i64 P, .slice dA dn dc] 34))) := Lib.hid (((Below.refl _ _).alloc (Nat.le_refl _) _).alloc (by simp) _)
  clear hR hd
  go_enter Tryz.func23, Tryz.ntmps23
  go_wp2_with (go_at_call 46; refine (put4_any _ _ hN).mono ?_; rintro e w' ⟨rfl, rfl⟩)
  go_ret
  exact ⟨_, rfl, ⟨_, 4, 4, rfl, by simp [valB, put4], by omega, rd_new ((w.alloc (.cells (nums id).toArray 22)).alloc (.cells #[.int .u32 N, .slice aA an ac, .int .i64 P, .slice dA dn dc] 34)) _ (put4 N) (by simp)⟩, HB.out.alloc (by simp; omega) _⟩

end Go.Proofs.YthgghgejndncnaaGreat
