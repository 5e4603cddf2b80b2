/- BYTES: reading and writing numbers of two and four bytes. -/
import Derived.Test.YthgghgejndncnaaBase
import Derived.Test.YthgghgejndncnaaArith
import Derived.Deep.QuietTactic
import Derived.BigQuiet
namespace Go.Proofs.Ythgghgejndncnaa
open Go.RowKit
set_option linter.unusedSimpArgs false
set_option linter.unusedVariables false

/-- 'beUint16(b)' (turn) -/
theorem tbe16_any (b o n c : Nat) (x y : Int) (w : World) (hn : 2 ≤ n) (hx : 0 ≤ x ∧ x ≤ 255) (hy : 0 ≤ y ∧ y ≤ 255)
    (h0 : w.cell? ⟨b, o, none⟩ = some (.int .u8 x)) (h1 : w.cell? ⟨b, o + 1, none⟩ = some (.int .u8 y)) :
    Calls Try.prog 47 #[.slice (some ⟨b, o, none⟩) n c] w fun e w' => e = .returned (.int .u16 (x * 256 + y)) ∧ ∃ k, w' = w.drewN k := by
  have l0 : (0 : Int) < n := by omega
  have l1 : (1 : Int) < n := by omega
  go_enter Try.func47, Try.ntmps47
  go_wp2
  go_quiet (fail)
  go_wp2
  go_ret
  exact ⟨ret_int (or16 x y hx hy), _, rfl⟩

/-- 'beUint16(b)' (stun) -/
theorem sbe16_any (b o n c : Nat) (x y : Int) (w : World) (hn : 2 ≤ n) (hx : 0 ≤ x ∧ x ≤ 255) (hy : 0 ≤ y ∧ y ≤ 255)
    (h0 : w.cell? ⟨b, o, none⟩ = some (.int .u8 x)) (h1 : w.cell? ⟨b, o + 1, none⟩ = some (.int .u8 y)) :
    Calls Try.prog 72 #[.slice (some ⟨b, o, none⟩) n c] w fun e w' => e = .returned (.int .u16 (x * 256 + y)) ∧ ∃ k, w' = w.drewN k := by
  have l0 : (0 : Int) < n := by omega
  have l1 : (1 : Int) < n := by omega
  go_enter Try.func72, Try.ntmps72
  go_wp2
  go_quiet (fail)
  go_wp2
  go_ret
  exact ⟨ret_int (or16 x y hx hy), _, rfl⟩

/-- 'beUint32(b)' (turn) -/
theorem tbe32_any (b o n c : Nat) (x0 x1 x2 x3 : Int) (w : World) (hn : 4 ≤ n) (r0 : 0 ≤ x0 ∧ x0 ≤ 255) (r1 : 0 ≤ x1 ∧ x1 ≤ 255) (r2 : 0 ≤ x2 ∧ x2 ≤ 255) (r3 : 0 ≤ x3 ∧ x3 ≤ 255)
    (h0 : w.cell? ⟨b, o, none⟩ = some (.int .u8 x0)) (h1 : w.cell? ⟨b, o + 1, none⟩ = some (.int .u8 x1)) (h2 : w.cell? ⟨b, o + 2, none⟩ = some (.int .u8 x2)) (h3 : w.cell? ⟨b, o + 3, none⟩ = some (.int .u8 x3)) :
    Calls Try.prog 81 #[.slice (some ⟨b, o, none⟩) n c] w fun e w' => e = .returned (.int .u32 (x0 * 16777216 + x1 * 65536 + x2 * 256 + x3)) ∧ ∃ k, w' = w.drewN k := by
  have l0 : (0 : Int) < n := by omega
  have l1 : (1 : Int) < n := by omega
  have l2 : (2 : Int) < n := by omega
  have l3 : (3 : Int) < n := by omega
  go_enter Try.func81, Try.ntmps81
  go_wp2
  go_quiet (fail)
  go_wp2
  go_ret
  exact ⟨ret_int (or32 x0 x1 x2 x3 r0 r1 r2 r3), _, rfl⟩

/-- 'beUint32(b)' (stun) -/
theorem sbe32_any (b o n c : Nat) (x0 x1 x2 x3 : Int) (w : World) (hn : 4 ≤ n) (r0 : 0 ≤ x0 ∧ x0 ≤ 255) (r1 : 0 ≤ x1 ∧ x1 ≤ 255) (r2 : 0 ≤ x2 ∧ x2 ≤ 255) (r3 : 0 ≤ x3 ∧ x3 ≤ 255)
    (h0 : w.cell? ⟨b, o, none⟩ = some (.int .u8 x0)) (h1 : w.cell? ⟨b, o + 1, none⟩ = some (.int .u8 x1)) (h2 : w.cell? ⟨b, o + 2, none⟩ = some (.int .u8 x2)) (h3 : w.cell? ⟨b, o + 3, none⟩ = some (.int .u8 x3)) :
    Calls Try.prog 73 #[.slice (some ⟨b, o, none⟩) n c] w fun e w' => e = .returned (.int .u32 (x0 * 16777216 + x1 * 65536 + x2 * 256 + x3)) ∧ ∃ k, w' = w.drewN k := by
  have l0 : (0 : Int) < n := by omega
  have l1 : (1 : Int) < n := by omega
  have l2 : (2 : Int) < n := by omega
  have l3 : (3 : Int) < n := by omega
  go_enter Try.func73, Try.ntmps73
  go_wp2
  go_quiet (fail)
  go_wp2
  go_ret
  exact ⟨ret_int (or32 x0 x1 x2 x3 r0 r1 r2 r3), _, rfl⟩

/-- 'bePutUint16(b, v)' (turn) -/
theorem tput16_any (b o n c : Nat) (v : Int) (u0 u1 : Value) (w : World) (hn : 2 ≤ n) (hv : 0 ≤ v ∧ v ≤ 65535)
    (h0 : w.cell? ⟨b, o, none⟩ = some u0) (h1 : w.cell? ⟨b, o + 1, none⟩ = some u1) (f0 : w.frozen? ⟨b, o, none⟩ = false) (f1 : w.frozen? ⟨b, o + 1, none⟩ = false) :
    Calls Try.prog 71 #[.slice (some ⟨b, o, none⟩) n c, .int .u16 v] w fun e w' => e = .returned (.tuple #[]) ∧ w' = (w.setCell ⟨b, o, none⟩ (.int .u8 (v / 256))).setCell ⟨b, o + 1, none⟩ (.int .u8 (v % 256)) := by
  have l0 : (0 : Int) < n := by omega
  have l1 : (1 : Int) < n := by omega
  go_enter Try.func71, Try.ntmps71
  go_wp2
  go_end0
  exact ⟨rfl, rfl⟩

/-- 'bePutUint16(b, v)' (stun) -/
theorem sput16_any (b o n c : Nat) (v : Int) (u0 u1 : Value) (w : World) (hn : 2 ≤ n) (hv : 0 ≤ v ∧ v ≤ 65535)
    (h0 : w.cell? ⟨b, o, none⟩ = some u0) (h1 : w.cell? ⟨b, o + 1, none⟩ = some u1) (f0 : w.frozen? ⟨b, o, none⟩ = false) (f1 : w.frozen? ⟨b, o + 1, none⟩ = false) :
    Calls Try.prog 83 #[.slice (some ⟨b, o, none⟩) n c, .int .u16 v] w fun e w' => e = .returned (.tuple #[]) ∧ w' = (w.setCell ⟨b, o, none⟩ (.int .u8 (v / 256))).setCell ⟨b, o + 1, none⟩ (.int .u8 (v % 256)) := by
  have l0 : (0 : Int) < n := by omega
  have l1 : (1 : Int) < n := by omega
  go_enter Try.func83, Try.ntmps83
  go_wp2
  go_end0
  exact ⟨rfl, rfl⟩

/-- 'bePutUint32(b, v)' -/
theorem tput32_any (b o n c : Nat) (v : Int) (u0 u1 u2 u3 : Value) (w : World) (hn : 4 ≤ n) (hv : 0 ≤ v ∧ v ≤ 4294967295)
    (h0 : w.cell? ⟨b, o, none⟩ = some u0) (h1 : w.cell? ⟨b, o + 1, none⟩ = some u1) (h2 : w.cell? ⟨b, o + 2, none⟩ = some u2) (h3 : w.cell? ⟨b, o + 3, none⟩ = some u3)
    (f0 : w.frozen? ⟨b, o, none⟩ = false) (f1 : w.frozen? ⟨b, o + 1, none⟩ = false) (f2 : w.frozen? ⟨b, o + 2, none⟩ = false) (f3 : w.frozen? ⟨b, o + 3, none⟩ = false) :
    Calls Try.prog 118 #[.slice (some ⟨b, o, none⟩) n c, .int .u32 v] w fun e w' => e = .returned (.tuple #[]) ∧
      w' = (((w.setCell ⟨b, o, none⟩ (.int .u8 (v / 16777216))).setCell ⟨b, o + 1, none⟩ (.int .u8 (v / 65536 % 256))).setCell ⟨b, o + 2, none⟩ (.int .u8 (v / 256 % 256))).setCell ⟨b, o + 3, none⟩ (.int .u8 (v % 256)) := by
  have l0 : (0 : Int) < n := by omega
  have l1 : (1 : Int) < n := by omega
  have l2 : (2 : Int) < n := by omega
  have l3 : (3 : Int) < n := by omega
  go_enter Try.func118, Try.ntmps118
  go_wp2
  go_end0
  exact ⟨rfl, rfl⟩

/-- 'bePutUint32(b, v)' -/
theorem sput32_any (b o n c : Nat) (v : Int) (u0 u1 u2 u3 : Value) (w : World) (hn : 4 ≤ n) (hv : 0 ≤ v ∧ v ≤ 4294967295)
    (h0 : w.cell? ⟨b, o, none⟩ = some u0) (h1 : w.cell? ⟨b, o + 1, none⟩ = some u1) (h2 : w.cell? ⟨b, o + 2, none⟩ = some u2) (h3 : w.cell? ⟨b, o + 3, none⟩ = some u3)
    (f0 : w.frozen? ⟨b, o, none⟩ = false) (f1 : w.frozen? ⟨b, o + 1, none⟩ = false) (f2 : w.frozen? ⟨b, o + 2, none⟩ = false) (f3 : w.frozen? ⟨b, o + 3, none⟩ = false) :
    Calls Try.prog 69 #[.slice (some ⟨b, o, none⟩) n c, .int .u32 v] w fun e w' => e = .returned (.tuple #[]) ∧
      w' = (((w.setCell ⟨b, o, none⟩ (.int .u8 (v / 16777216))).setCell ⟨b, o + 1, none⟩ (.int .u8 (v / 65536 % 256))).setCell ⟨b, o + 2, none⟩ (.int .u8 (v / 256 % 256))).setCell ⟨b, o + 3, none⟩ (.int .u8 (v % 256)) := by
  have l0 : (0 : Int) < n := by omega
  have l1 : (1 : Int) < n := by omega
  have l2 : (2 : Int) < n := by omega
  have l3 : (3 : Int) < n := by omega
  go_enter Try.func69, Try.ntmps69
  go_wp2
  go_end0
  exact ⟨rfl, rfl⟩

end Go.Proofs.Ythgghgejndncnaa
