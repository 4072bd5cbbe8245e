import Derived.Test.YbulkbmbkRows
import Derived.Test.YbulkbmbkPlain
import Derived.WalkKit
import Derived.WalkSpells
import Derived.Lib.Mul64
import Derived.Laws.Bits64b
import Derived.Deep.QuietTactic
import Derived.BigQuiet
namespace Go.Proofs.Ybulkbmbk
open Go.RowKit

theorem maskN (a m : Nat) (ha : a < 18446744073709551616) (hm : m < 18446744073709551616) : bits .and .u64 (a : Int) (m : Int) = ((a &&& m : Nat) : Int) := bits_and_u64_nat a m ha hm
theorem addN (a b : Nat) : (a : Int) + (b : Int) = ((a + b : Nat) : Int) := (Int.natCast_add a b).symm
theorem wrapN (a : Nat) (ha : a < 18446744073709551616) : IntKind.u64.wrap (a : Int) = (a : Int) := by rw [IntKind.wrap_u64]; omega
theorem wrapM (a : Nat) : IntKind.u64.wrap (a : Int) = ((a % 18446744073709551616 : Nat) : Int) := by rw [IntKind.wrap_u64]; omega

theorem fold1 (x : Nat) (hx : x < 18446744073709551616) (h1 : Pl.x1 x < 18446744073709551616) :
    IntKind.u64.wrap (bits BinOp.and IntKind.u64 ((x : Int) / 2) 6148914691236517205 + bits BinOp.and IntKind.u64 (x : Int) 6148914691236517205) = (Pl.x1 x : Nat) := by
  have a := maskN (x / 2) 6148914691236517205 (by omega) (by omega)
  have b := maskN x 6148914691236517205 hx (by omega)
  have e : ((x / 2 : Nat) : Int) = (x : Int) / 2 := by omega
  rw [e] at a
  rw [show ((6148914691236517205 : Nat) : Int) = 6148914691236517205 from rfl] at a b
  rw [a, b, addN]
  exact wrapN _ h1
theorem fold2 (x : Nat) (hx : Pl.x1 x < 18446744073709551616) (h1 : Pl.x2 x < 18446744073709551616) :
    IntKind.u64.wrap (bits BinOp.and IntKind.u64 ((Pl.x1 x : Int) / 4) 3689348814741910323 + bits BinOp.and IntKind.u64 (Pl.x1 x : Int) 3689348814741910323) = (Pl.x2 x : Nat) := by
  have a := maskN (Pl.x1 x / 4) 3689348814741910323 (by omega) (by omega)
  have b := maskN (Pl.x1 x) 3689348814741910323 hx (by omega)
  have e : ((Pl.x1 x / 4 : Nat) : Int) = (Pl.x1 x : Int) / 4 := by omega
  rw [e] at a
  rw [show ((3689348814741910323 : Nat) : Int) = 3689348814741910323 from rfl] at a b
  rw [a, b, addN]
  exact wrapN _ h1
theorem fold3 (x : Nat) (hx : Pl.x2 x / 16 + Pl.x2 x < 18446744073709551616) :
    bits BinOp.and IntKind.u64 (IntKind.u64.wrap ((Pl.x2 x : Int) / 16 + (Pl.x2 x : Int))) 1085102592571150095 = (Pl.x3 x : Nat) := by
  have e : (Pl.x2 x : Int) / 16 + (Pl.x2 x : Int) = ((Pl.x2 x / 16 + Pl.x2 x : Nat) : Int) := by omega
  rw [e, wrapN _ hx]
  exact maskN _ 1085102592571150095 hx (by omega)
theorem fold4 (X : Nat) (h : X + X / 256 < 18446744073709551616) : IntKind.u64.wrap ((X : Int) + (X : Int) / 256) = ((X + X / 256 : Nat) : Int) := by
  have e : (X : Int) + (X : Int) / 256 = ((X + X / 256 : Nat) : Int) := by omega
  rw [e, wrapN _ h]
theorem fold5 (X : Nat) (h : X + X / 65536 < 18446744073709551616) : IntKind.u64.wrap ((X : Int) + (X : Int) / 65536) = ((X + X / 65536 : Nat) : Int) := by
  have e : (X : Int) + (X : Int) / 65536 = ((X + X / 65536 : Nat) : Int) := by omega
  rw [e, wrapN _ h]
theorem fold6 (X : Nat) (h : X + X / 4294967296 < 18446744073709551616) : IntKind.u64.wrap ((X : Int) + (X : Int) / 4294967296) = ((X + X / 4294967296 : Nat) : Int) := by
  have e : (X : Int) + (X : Int) / 4294967296 = ((X + X / 4294967296 : Nat) : Int) := by omega
  rw [e, wrapN _ h]

set_option maxHeartbeats 400000 in
theorem ones_walk (x : Nat) (hx : x < 18446744073709551616) (w : World) :
    Calls Yba.prog 12 #[.int .u64 x] w fun e w' => e = .returned (.int .i64 (Pl.pc 64 x : Nat)) ∧ w' = w := by
  obtain ⟨h1, h2, h3', h3, h4, h5, h6, h7⟩ := Pl.steps_lt x hx
  have f1 := fold1 x hx h1
  have f2 := fold2 x h1 h2
  have f3 := fold3 x h3'
  have f4 : _ = ((Pl.x4 x : Nat) : Int) := fold4 (Pl.x3 x) h4
  have f5 : _ = ((Pl.x5 x : Nat) : Int) := fold5 (Pl.x4 x) h5
  have f6 : _ = ((Pl.x6 x : Nat) : Int) := fold6 (Pl.x5 x) (by show Pl.x6 x < _; omega)
  clear h1 h2 h3' h3 h4 h5
  generalize Pl.x1 x = X1 at *
  generalize Pl.x2 x = X2 at *
  generalize Pl.x3 x = X3 at *
  generalize Pl.x4 x = X4 at *
  generalize Pl.x5 x = X5 at *
  generalize Pl.x6 x = X6 at *
  generalize Pl.pc 64 x = PC at *
  have H7 : Hid (X6 % 128 = PC) := h7
  clear h7
  go_enter Yba.func12, Yba.ntmps12
  go_wp2
  simp only [i64_and127]
  go_ret
  exact ⟨by rw [← H7.out]; rfl, rfl⟩

namespace Mul
theorem maskN (a : Nat) (ha : a < 18446744073709551616) : bits .and .u64 (a : Int) 4294967295 = ((a % 4294967296 : Nat) : Int) := by
  have h := bits_and_u64_nat a 4294967295 ha (by omega)
  have e : a &&& 4294967295 = a % 4294967296 := Nat.and_two_pow_sub_one_eq_mod a 32
  rw [e] at h
  exact h
theorem divN (a : Nat) : (a : Int) / 4294967296 = ((a / 4294967296 : Nat) : Int) := by omega
theorem mulN (a b : Nat) : (a : Int) * (b : Int) = ((a * b : Nat) : Int) := (Int.natCast_mul a b).symm
end Mul

set_option maxHeartbeats 1000000 in
theorem mul_walk (x y : Nat) (hx : x < 18446744073709551616) (hy : y < 18446744073709551616) (w : World) :
    Calls Yba.prog 13 #[.int .u64 x, .int .u64 y] w fun e w' => e = .returned (.tuple #[.int .u64 ((x * y / 18446744073709551616 : Nat) : Int), .int .u64 ((x * y % 18446744073709551616 : Nat) : Int)]) ∧ w' = w := by
  obtain ⟨bd, bt, bw, hhi⟩ := Lib.mul64_hi x y hx hy
  have ba := Lib.half_mul_le (a := x / 4294967296) (b := y / 4294967296) (by omega) (by omega)
  have bb := Lib.half_mul_le (a := x / 4294967296) (b := y % 4294967296) (by omega) (by omega)
  have bc := Lib.half_mul_le (a := x % 4294967296) (b := y / 4294967296) (by omega) (by omega)
  have ba' : x / 4294967296 * (y / 4294967296) < 18446744073709551616 := by omega
  have bb' : x / 4294967296 * (y % 4294967296) < 18446744073709551616 := by omega
  have bc' : x % 4294967296 * (y / 4294967296) < 18446744073709551616 := by omega
  have bh1 : x / 4294967296 * (y / 4294967296) + (x / 4294967296 * (y % 4294967296) + x % 4294967296 * (y % 4294967296) / 4294967296) / 4294967296 < 18446744073709551616 := by omega
  have bh : x / 4294967296 * (y / 4294967296) + (x / 4294967296 * (y % 4294967296) + x % 4294967296 * (y % 4294967296) / 4294967296) / 4294967296 + ((x / 4294967296 * (y % 4294967296) + x % 4294967296 * (y % 4294967296) / 4294967296) % 4294967296 + x % 4294967296 * (y / 4294967296)) / 4294967296 < 18446744073709551616 := by omega
  go_enter Yba.func13, Yba.ntmps13
  go_wp2
  simp only [Mul.maskN x hx, Mul.maskN y hy, Mul.divN, Mul.mulN, addN, wrapN _ bd, wrapN _ bb', wrapN _ bt, Mul.maskN _ bt, wrapN _ bc', wrapN _ bw, wrapN _ ba', wrapN _ bh1, wrapN _ bh, wrapM (x * y)]
  rw [hhi]
  go_ret2
  exact ⟨rfl, rfl⟩

end Go.Proofs.Ybulkbmbk
