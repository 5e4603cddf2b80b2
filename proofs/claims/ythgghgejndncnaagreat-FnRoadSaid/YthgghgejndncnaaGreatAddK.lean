/- 'impl.Add' of each kind of attributes. -/
import Derived.Test.YthgghgejndncnaaGreatAdd
import Derived.Test.YthgghgejndncnaaGreatValue
import Derived.Test.YthgghgejndncnaaGreatM6
namespace Go.Proofs.YthgghgejndncnaaGreat
open Go.RowKit
set_option linter.unusedSimpArgs false
set_option linter.unusedVariables false

/-- what comes out of 'impl.Add' -/
def AddOut (w w' : World) (e : Ending) (t : Int) (id v : List Int) : Prop := ∃ A c, 24 + pad4 v.length ≤ c ∧ e = .returned (.tuple #[.slice A (24 + pad4 v.length) c, .bool true]) ∧ Rd w' A (msgH 0 0 t id v) ∧ Below w.heap.size w w'

/-- what is added: the value, but for a port that is to be reserved -/
def addB (k N : Int) (ax : List Int) (P : Int) (dx id : List Int) : List Int := if k = 5 ∧ N = 1 then [255] else valB k N ax P dx id

theorem meth_0 (N : Int) (K : Nat) (w : World) (h : 0 < K) : (method K 63 (.int .u16 N) "AddTo").run Tryz.prog w = .ok (88, .int .u16 N) w := by
  obtain ⟨k, rfl⟩ : ∃ k, K = k + 1 := ⟨K - 1, by omega⟩
  kernel_rfl
theorem enter_0 (args : Array Value) (w : World) : (callFunc 88 args).run Tryz.prog w = .ok (.enter 88 args) w :=
  enters Tryz.func88 (by kernel_rfl) rfl args w
theorem meth_1 (D : Int) (K : Nat) (w : World) (h : 0 < K) : (method K 67 (.agg #[.int .i64 D]) "AddTo").run Tryz.prog w = .ok (95, .agg #[.int .i64 D]) w := by
  obtain ⟨k, rfl⟩ : ∃ k, K = k + 1 := ⟨K - 1, by omega⟩
  kernel_rfl
theorem enter_1 (args : Array Value) (w : World) : (callFunc 95 args).run Tryz.prog w = .ok (.enter 95 args) w :=
  enters Tryz.func95 (by kernel_rfl) rfl args w
theorem meth_2 (A : Option Addr) (n c : Nat) (P : Int) (K : Nat) (w : World) (h : 0 < K) : (method K 70 (.agg #[.slice A n c, .int .i64 P]) "AddTo").run Tryz.prog w = .ok (99, .agg #[.slice A n c, .int .i64 P]) w := by
  obtain ⟨k, rfl⟩ : ∃ k, K = k + 1 := ⟨K - 1, by omega⟩
  kernel_rfl
theorem enter_2 (args : Array Value) (w : World) : (callFunc 99 args).run Tryz.prog w = .ok (.enter 99 args) w :=
  enters Tryz.func99 (by kernel_rfl) rfl args w
theorem meth_3 (A : Option Addr) (n c : Nat) (P : Int) (K : Nat) (w : World) (h : 0 < K) : (method K 71 (.agg #[.slice A n c, .int .i64 P]) "AddTo").run Tryz.prog w = .ok (103, .agg #[.slice A n c, .int .i64 P]) w := by
  obtain ⟨k, rfl⟩ : ∃ k, K = k + 1 := ⟨K - 1, by omega⟩
  kernel_rfl
theorem enter_3 (args : Array Value) (w : World) : (callFunc 103 args).run Tryz.prog w = .ok (.enter 103 args) w :=
  enters Tryz.func103 (by kernel_rfl) rfl args w
theorem meth_4 (A : Option Addr) (n c : Nat) (K : Nat) (w : World) (h : 0 < K) : (method K 72 (.slice A n c) "AddTo").run Tryz.prog w = .ok (104, .slice A n c) w := by
  obtain ⟨k, rfl⟩ : ∃ k, K = k + 1 := ⟨K - 1, by omega⟩
  kernel_rfl
theorem enter_4 (args : Array Value) (w : World) : (callFunc 104 args).run Tryz.prog w = .ok (.enter 104 args) w :=
  enters Tryz.func104 (by kernel_rfl) rfl args w
theorem meth_5 (b : Bool) (K : Nat) (w : World) (h : 0 < K) : (method K 74 (.agg #[.bool b]) "AddTo").run Tryz.prog w = .ok (105, .agg #[.bool b]) w := by
  obtain ⟨k, rfl⟩ : ∃ k, K = k + 1 := ⟨K - 1, by omega⟩
  kernel_rfl
theorem enter_5 (args : Array Value) (w : World) : (callFunc 105 args).run Tryz.prog w = .ok (.enter 105 args) w :=
  enters Tryz.func105 (by kernel_rfl) rfl args w
theorem meth_6 (A : Option Addr) (n c : Nat) (K : Nat) (w : World) (h : 0 < K) : (method K 75 (.slice A n c) "AddTo").run Tryz.prog w = .ok (107, .slice A n c) w := by
  obtain ⟨k, rfl⟩ : ∃ k, K = k + 1 := ⟨K - 1, by omega⟩
  kernel_rfl
theorem enter_6 (args : Array Value) (w : World) : (callFunc 107 args).run Tryz.prog w = .ok (.enter 107 args) w :=
  enters Tryz.func107 (by kernel_rfl) rfl args w
theorem meth_7 (N : Int) (K : Nat) (w : World) (h : 0 < K) : (method K 78 (.agg #[.int .u8 N]) "AddTo").run Tryz.prog w = .ok (109, .agg #[.int .u8 N]) w := by
  obtain ⟨k, rfl⟩ : ∃ k, K = k + 1 := ⟨K - 1, by omega⟩
  kernel_rfl
theorem enter_7 (args : Array Value) (w : World) : (callFunc 109 args).run Tryz.prog w = .ok (.enter 109 args) w :=
  enters Tryz.func109 (by kernel_rfl) rfl args w
theorem meth_8 (N : Int) (K : Nat) (w : World) (h : 0 < K) : (method K 79 (.int .u8 N) "AddTo").run Tryz.prog w = .ok (111, .int .u8 N) w := by
  obtain ⟨k, rfl⟩ : ∃ k, K = k + 1 := ⟨K - 1, by omega⟩
  kernel_rfl
theorem enter_8 (args : Array Value) (w : World) : (callFunc 111 args).run Tryz.prog w = .ok (.enter 111 args) w :=
  enters Tryz.func111 (by kernel_rfl) rfl args w
theorem meth_9  (K : Nat) (w : World) (h : 0 < K) : (method K 81 (.agg #[]) "AddTo").run Tryz.prog w = .ok (113, .agg #[]) w := by
  obtain ⟨k, rfl⟩ : ∃ k, K = k + 1 := ⟨K - 1, by omega⟩
  kernel_rfl
theorem enter_9 (args : Array Value) (w : World) : (callFunc 113 args).run Tryz.prog w = .ok (.enter 113 args) w :=
  enters Tryz.func113 (by kernel_rfl) rfl args w
theorem meth_10 (N : Int) (K : Nat) (w : World) (h : 0 < K) : (method K 82 (.int .u32 N) "AddTo").run Tryz.prog w = .ok (115, .int .u32 N) w := by
  obtain ⟨k, rfl⟩ : ∃ k, K = k + 1 := ⟨K - 1, by omega⟩
  kernel_rfl
theorem enter_10 (args : Array Value) (w : World) : (callFunc 115 args).run Tryz.prog w = .ok (.enter 115 args) w :=
  enters Tryz.func115 (by kernel_rfl) rfl args w

theorem add_0 (id : List Int) (N : Int) (aA : Option Addr) (an ac : Nat) (ax : List Int) (P : Int) (dA : Option Addr) (dn dc : Nat) (dx : List Int) (w : World) (hid : id.length = 12) (hN : 0 ≤ N ∧ N ≤ 65535) :
    Calls Tryz.prog 7 #[.int .i64 0, idV id, atV N aA an ac P dA dn dc] w fun e w' => AddOut w w' e 12 id (put2 N ++ [0, 0]) := by
  have hv : put2 N ++ [0, 0] = [N / 256, N % 256, 0, 0] := by
    have e : N / 256 % 256 = N / 256 := by omega
    simp [put2, e]
  rw [hv]
  refine add_any 0 id N aA an ac P dA dn dc 63 88 12 [N / 256, N % 256, 0, 0] w hid (by simp) (fun w1 hB1 => ?_) enter_0
  refine (setter_0 N aA an ac ax P dA dn dc dx w1 hN).mono ?_
  rintro e w' ⟨rfl, hB⟩
  exact ⟨_, rfl, hB, fun K w h => meth_0 N K w h, fun g rb bs w2 hk hg hr hfr => aChannel_any N hN g rb id bs w2 hfr⟩

theorem add_10 (id : List Int) (N : Int) (aA : Option Addr) (an ac : Nat) (ax : List Int) (P : Int) (dA : Option Addr) (dn dc : Nat) (dx : List Int) (w : World) (hid : id.length = 12) (hN : 0 ≤ N ∧ N ≤ 4294967295) :
    Calls Tryz.prog 7 #[.int .i64 10, idV id, atV N aA an ac P dA dn dc] w fun e w' => AddOut w w' e 42 id (put4 N) := by
  have hv : put4 N = [N / 16777216, N / 65536 % 256, N / 256 % 256, N % 256] := by
    have e1 : N / 256 / 256 / 256 = N / 16777216 := by omega
    have e2 : N / 256 / 256 % 256 = N / 65536 % 256 := by omega
    simp [put4, e1, e2]
  rw [hv]
  refine add_any 10 id N aA an ac P dA dn dc 82 115 42 [N / 16777216, N / 65536 % 256, N / 256 % 256, N % 256] w hid (by simp) (fun w1 hB1 => ?_) enter_10
  refine (setter_10 N aA an ac ax P dA dn dc dx w1).mono ?_
  rintro e w' ⟨rfl, hB⟩
  exact ⟨_, rfl, hB, fun K w h => meth_10 N K w h, fun g rb bs w2 hk hg hr hfr => aConnection_any N hN g rb id bs w2 hfr⟩

theorem add_1 (id : List Int) (N : Int) (aA : Option Addr) (an ac : Nat) (ax : List Int) (P : Int) (dA : Option Addr) (dn dc : Nat) (dx : List Int) (w : World) (hid : id.length = 12) (hN : 0 ≤ N ∧ N ≤ 4294967295) :
    Calls Tryz.prog 7 #[.int .i64 1, idV id, atV N aA an ac P dA dn dc] w fun e w' => AddOut w w' e 13 id (put4 N) := by
  obtain ⟨n, rfl⟩ := Int.eq_ofNat_of_zero_le hN.1
  have hv : put4 (n : Int) = [(n : Int) / 16777216, (n : Int) / 65536 % 256, (n : Int) / 256 % 256, (n : Int) % 256] := by
    have e1 : (n : Int) / 256 / 256 / 256 = (n : Int) / 16777216 := by omega
    have e2 : (n : Int) / 256 / 256 % 256 = (n : Int) / 65536 % 256 := by omega
    simp [put4, e1, e2]
  rw [hv]
  refine add_any 1 id n aA an ac P dA dn dc 67 95 13 [(n : Int) / 16777216, (n : Int) / 65536 % 256, (n : Int) / 256 % 256, (n : Int) % 256] w hid (by simp) (fun w1 hB1 => ?_) enter_1
  refine (setter_1 n aA an ac ax P dA dn dc dx w1 hN).mono ?_
  rintro e w' ⟨rfl, hB⟩
  exact ⟨_, rfl, hB, fun K w h => meth_1 _ K w h, fun g rb bs w2 hk hg hr hfr => aLifetime_any n (by omega) (1000000000 * (n : Int)) (by omega) g rb id bs w2 hfr⟩

theorem add_5 (id : List Int) (N : Int) (aA : Option Addr) (an ac : Nat) (ax : List Int) (P : Int) (dA : Option Addr) (dn dc : Nat) (dx : List Int) (w : World) (hid : id.length = 12) (hN : 0 ≤ N ∧ N ≤ 1) :
    Calls Tryz.prog 7 #[.int .i64 5, idV id, atV N aA an ac P dA dn dc] w fun e w' => AddOut w w' e 24 id (addB 5 N ax P dx id) := by
  have hv : addB 5 N ax P dx id = [if (N == 1) then 255 else 0] := by
    have : N = 0 ∨ N = 1 := by omega
    rcases this with rfl | rfl
    · rfl
    · rfl
  rw [hv]
  refine add_any 5 id N aA an ac P dA dn dc 74 105 24 [if (N == 1) then 255 else 0] w hid (by simp) (fun w1 hB1 => ?_) enter_5
  refine (setter_5 N aA an ac ax P dA dn dc dx w1 hN).mono ?_
  rintro e w' ⟨rfl, hB⟩
  exact ⟨_, rfl, hB, fun K w h => meth_5 (N == 1) K w h, fun g rb bs w2 hk hg hr hfr => aEven_any (N == 1) g rb id bs w2 hfr⟩

theorem add_7 (id : List Int) (N : Int) (aA : Option Addr) (an ac : Nat) (ax : List Int) (P : Int) (dA : Option Addr) (dn dc : Nat) (dx : List Int) (w : World) (hid : id.length = 12) (hN : 0 ≤ N ∧ N ≤ 255) :
    Calls Tryz.prog 7 #[.int .i64 7, idV id, atV N aA an ac P dA dn dc] w fun e w' => AddOut w w' e 25 id [N % 256, 0, 0, 0] := by
  have hv : N % 256 = N := by omega
  rw [hv]
  refine add_any 7 id N aA an ac P dA dn dc 78 109 25 [N, 0, 0, 0] w hid (by simp) (fun w1 hB1 => ?_) enter_7
  refine (setter_7 N aA an ac ax P dA dn dc dx w1 hN).mono ?_
  rintro e w' ⟨rfl, hB⟩
  exact ⟨_, rfl, hB, fun K w h => meth_7 N K w h, fun g rb bs w2 hk hg hr hfr => aTransport_any N hN g rb id bs w2 hfr⟩

theorem add_8 (id : List Int) (N : Int) (aA : Option Addr) (an ac : Nat) (ax : List Int) (P : Int) (dA : Option Addr) (dn dc : Nat) (dx : List Int) (w : World) (hid : id.length = 12) (hN : 0 ≤ N ∧ N ≤ 255) :
    Calls Tryz.prog 7 #[.int .i64 8, idV id, atV N aA an ac P dA dn dc] w fun e w' => AddOut w w' e 23 id [N % 256, 0, 0, 0] := by
  have hv : N % 256 = N := by omega
  rw [hv]
  refine add_any 8 id N aA an ac P dA dn dc 79 111 23 [N, 0, 0, 0] w hid (by simp) (fun w1 hB1 => ?_) enter_8
  refine (setter_8 N aA an ac ax P dA dn dc dx w1 hN).mono ?_
  rintro e w' ⟨rfl, hB⟩
  exact ⟨_, rfl, hB, fun K w h => meth_8 N K w h, fun g rb bs w2 hk hg hr hfr => aFamily_any N hN g rb id bs w2 hfr⟩

theorem add_9 (id : List Int) (N : Int) (aA : Option Addr) (an ac : Nat) (ax : List Int) (P : Int) (dA : Option Addr) (dn dc : Nat) (dx : List Int) (w : World) (hid : id.length = 12)  :
    Calls Tryz.prog 7 #[.int .i64 9, idV id, atV N aA an ac P dA dn dc] w fun e w' => AddOut w w' e 26 id [] := by
  refine add_any 9 id N aA an ac P dA dn dc 81 113 26 [] w hid (by simp) (fun w1 hB1 => ?_) enter_9
  refine (setter_9 N aA an ac ax P dA dn dc dx w1).mono ?_
  rintro e w' ⟨rfl, hB⟩
  exact ⟨_, rfl, hB, fun K w h => meth_9 K w h, fun g rb bs w2 hk hg hr hfr => aFragment_any g rb id bs w2 hfr⟩

theorem add_4 (id : List Int) (N : Int) (aA : Option Addr) (an ac : Nat) (ax : List Int) (P : Int) (dA : Option Addr) (dn dc : Nat) (dx : List Int) (w : World) (hid : id.length = 12) (hd : dx.length = dn) (hl : dn ≤ 1000) (hR : Rd w dA dx) :
    Calls Tryz.prog 7 #[.int .i64 4, idV id, atV N aA an ac P dA dn dc] w fun e w' => AddOut w w' e 19 id dx := by
  refine add_any 4 id N aA an ac P dA dn dc 72 104 19 dx w hid (by omega) (fun w1 hB1 => ?_) enter_4
  refine (setter_4 N aA an ac ax P dA dn dc dx w1 hd (by omega) (hR.below hB1)).mono ?_
  rintro e w' ⟨v', rfl, A, c, rfl, k1, k2, k3, k4, k5⟩
  refine ⟨_, rfl, k5, fun K w h => meth_4 A dn c K w h, fun g rb bs w2 hk hg hr hfr => ?_⟩
  have hA : ∀ a, A = some a → a.block ≠ g ∧ a.block ≠ rb := fun a e => by have := k4 a e; omega
  have hR2 := k3.kept hk (by simp)
  exact aData_any A dn c dx g rb id bs w2 hfr k2 hl hR2 hA

theorem add_6 (id : List Int) (N : Int) (aA : Option Addr) (an ac : Nat) (ax : List Int) (P : Int) (dA : Option Addr) (dn dc : Nat) (dx : List Int) (w : World) (hid : id.length = 12) (hd : dx.length = dn) (h8 : dn = 8) (hR : Rd w dA dx) :
    Calls Tryz.prog 7 #[.int .i64 6, idV id, atV N aA an ac P dA dn dc] w fun e w' => AddOut w w' e 34 id dx := by
  refine add_any 6 id N aA an ac P dA dn dc 75 107 34 dx w hid (by omega) (fun w1 hB1 => ?_) enter_6
  refine (setter_6 N aA an ac ax P dA dn dc dx w1 hd (by omega) (hR.below hB1)).mono ?_
  rintro e w' ⟨v', rfl, A, c, rfl, k1, k2, k3, k4, k5⟩
  refine ⟨_, rfl, k5, fun K w h => meth_6 A dn c K w h, fun g rb bs w2 hk hg hr hfr => ?_⟩
  have hA : ∀ a, A = some a → a.block ≠ g ∧ a.block ≠ rb := fun a e => by have := k4 a e; omega
  have hR2 := k3.kept hk (by simp)
  subst h8
  exact aToken_any A c dx g rb id bs w2 hfr k2 hR2 hA

theorem add_2 (id : List Int) (N : Int) (aA : Option Addr) (an ac : Nat) (ax : List Int) (P : Int) (dA : Option Addr) (dn dc : Nat) (dx : List Int) (w : World) (hid : id.length = 12) (ha : ax.length = an) (hN : an = 4 ∨ (an = 16 ∧ mappedB ax = false)) (hP : 0 ≤ P ∧ P ≤ 65535) (hR : Rd w aA ax) :
    Calls Tryz.prog 7 #[.int .i64 2, idV id, atV N aA an ac P dA dn dc] w fun e w' => AddOut w w' e 18 id ([0, fam an, x8 (P / 256 % 256) 33, x8 (P % 256) 18] ++ xorL ax (mask id)) := by
  refine add_any 2 id N aA an ac P dA dn dc 70 99 18 ([0, fam an, x8 (P / 256 % 256) 33, x8 (P % 256) 18] ++ xorL ax (mask id)) w hid (by simp [xorL_length, ha, mask, hid]; omega) (fun w1 hB1 => ?_) enter_2
  refine (setter_2 N aA an ac ax P dA dn dc dx w1 ha (by omega) (hR.below hB1)).mono ?_
  rintro e w' ⟨v', rfl, A, c, rfl, k1, k2, k3, k4, k5⟩
  refine ⟨_, rfl, k5, fun K w h => meth_2 A an c P K w h, fun g rb bs w2 hk hg hr hfr => ?_⟩
  exact aPeer_any A an c ax P g rb id bs w2 hfr hP k2 hN k1 (k3.kept hk (by simp))

theorem add_3 (id : List Int) (N : Int) (aA : Option Addr) (an ac : Nat) (ax : List Int) (P : Int) (dA : Option Addr) (dn dc : Nat) (dx : List Int) (w : World) (hid : id.length = 12) (ha : ax.length = an) (hN : an = 4 ∨ (an = 16 ∧ mappedB ax = false)) (hP : 0 ≤ P ∧ P ≤ 65535) (hR : Rd w aA ax) :
    Calls Tryz.prog 7 #[.int .i64 3, idV id, atV N aA an ac P dA dn dc] w fun e w' => AddOut w w' e 22 id ([0, fam an, x8 (P / 256 % 256) 33, x8 (P % 256) 18] ++ xorL ax (mask id)) := by
  refine add_any 3 id N aA an ac P dA dn dc 71 103 22 ([0, fam an, x8 (P / 256 % 256) 33, x8 (P % 256) 18] ++ xorL ax (mask id)) w hid (by simp [xorL_length, ha, mask, hid]; omega) (fun w1 hB1 => ?_) enter_3
  refine (setter_3 N aA an ac ax P dA dn dc dx w1 ha (by omega) (hR.below hB1)).mono ?_
  rintro e w' ⟨v', rfl, A, c, rfl, k1, k2, k3, k4, k5⟩
  refine ⟨_, rfl, k5, fun K w h => meth_3 A an c P K w h, fun g rb bs w2 hk hg hr hfr => ?_⟩
  exact aRelayed_any A an c ax P g rb id bs w2 hfr hP k2 hN k1 (k3.kept hk (by simp))

theorem proper_adr {k N : Int} {an : Nat} {ax : List Int} {P : Int} {dn : Nat} (hk : k = 2 ∨ k = 3) (h : properB k N an ax P dn = true) : (an = 4 ∨ (an = 16 ∧ mappedB ax = false)) ∧ (0 ≤ P ∧ P ≤ 65535) := by
  rcases hk with rfl | rfl
  all_goals
    simp [properB] at h
    refine ⟨?_, by omega⟩
    rcases h.1.1 with q | q
    · exact .inl (by omega)
    · exact .inr ⟨by omega, q.2⟩
set_option maxHeartbeats 1000000 in
theorem add_all (k : Int) (hk : 0 ≤ k ∧ k ≤ 10) (id : List Int) (N : Int) (aA : Option Addr) (an ac : Nat) (ax : List Int) (P : Int) (dA : Option Addr) (dn dc : Nat) (dx : List Int) (w : World) (hid : id.length = 12) (hN : 0 ≤ N ∧ N ≤ 4294967295)
    (ha : ax.length = an) (hRa : Rd w aA ax) (hd : dx.length = dn) (hRd : Rd w dA dx) (hp : properB k N an ax P dn = true) :
    Calls Tryz.prog 7 #[.int .i64 k, idV id, atV N aA an ac P dA dn dc] w fun e w' => AddOut w w' e (typeB k) id (addB k N ax P dx id) := by
  have : k = 0 ∨ k = 1 ∨ k = 2 ∨ k = 3 ∨ k = 4 ∨ k = 5 ∨ k = 6 ∨ k = 7 ∨ k = 8 ∨ k = 9 ∨ k = 10 := by omega
  rcases this with rfl | rfl | rfl | rfl | rfl | rfl | rfl | rfl | rfl | rfl | rfl
  · have h : N ≤ 32767 := by simp [properB] at hp; omega
    exact add_0 id N aA an ac ax P dA dn dc dx w hid (by omega)
  · exact add_1 id N aA an ac ax P dA dn dc dx w hid hN
  · have e : addB 2 N ax P dx id = [0, fam an, x8 (P / 256 % 256) 33, x8 (P % 256) 18] ++ xorL ax (mask id) := by rw [← ha]; rfl
    rw [e]
    have h := proper_adr (.inl rfl) hp
    exact add_2 id N aA an ac ax P dA dn dc dx w hid ha h.1 h.2 hRa
  · have e : addB 3 N ax P dx id = [0, fam an, x8 (P / 256 % 256) 33, x8 (P % 256) 18] ++ xorL ax (mask id) := by rw [← ha]; rfl
    rw [e]
    have h := proper_adr (.inr rfl) hp
    exact add_3 id N aA an ac ax P dA dn dc dx w hid ha h.1 h.2 hRa
  · have h : dn ≤ 1000 := by simp [properB] at hp; omega
    exact add_4 id N aA an ac ax P dA dn dc dx w hid hd h hRd
  · have h : N ≤ 1 := by simp [properB] at hp; omega
    exact add_5 id N aA an ac ax P dA dn dc dx w hid (by omega)
  · have h : dn = 8 := by simp [properB] at hp; omega
    exact add_6 id N aA an ac ax P dA dn dc dx w hid hd h hRd
  · have h : N ≤ 255 := by simp [properB] at hp; omega
    exact add_7 id N aA an ac ax P dA dn dc dx w hid (by omega)
  · have h : N ≤ 2 := by simp [properB] at hp; omega
    exact add_8 id N aA an ac ax P dA dn dc dx w hid (by omega)
  · exact add_9 id N aA an ac ax P dA dn dc dx w hid
  · exact add_10 id N aA an ac ax P dA dn dc dx w hid hN
end Go.Proofs.YthgghgejndncnaaGreat
