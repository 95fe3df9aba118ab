/-
  math/bits AT THIS TRANSLATION: Mul64 (20), Add64 (21), Len64 (32), LeadingZeros64 (22), Div64 (12): one contract each, over Int.
-/
import Derived.Test.YbulkdbboRows
import Derived.WalkKit
import Derived.WalkSpells
import Derived.Handy
import Derived.Lib.Mul64
import Derived.Laws.Bits64b
import Derived.Laws.Externs
import Derived.Deep.QuietTactic
import Derived.BigQuiet
namespace Go.Proofs.Ybulkdbbo
open Go.RowKit Go.Lib

theorem hide {p : Prop} (h : p) : Hid p := h
theorem unhide {p : Prop} (h : Hid p) : p := h

/-- A word of 64 bits. -/
def Word (x : Int) : Prop := 0 ≤ x ∧ x < 18446744073709551616

namespace Mul
theorem maskN (a : Nat) (ha : a < 18446744073709551616) : bits .and .u64 (a : Int) 4294967295 = ((a % 4294967296 : Nat) : Int) := by
  have h := bits_and_u64_nat a 4294967295 ha (by omega)
  have e : a &&& 4294967295 = a % 4294967296 := Nat.and_two_pow_sub_one_eq_mod a 32
  rw [e] at h
  exact h
theorem divN (a : Nat) : (a : Int) / 4294967296 = ((a / 4294967296 : Nat) : Int) := by omega
theorem mulN (a b : Nat) : (a : Int) * (b : Int) = ((a * b : Nat) : Int) := (Int.natCast_mul a b).symm
theorem addN (a b : Nat) : (a : Int) + (b : Int) = ((a + b : Nat) : Int) := (Int.natCast_add a b).symm
theorem wrapN (a : Nat) (ha : a < 18446744073709551616) : IntKind.u64.wrap (a : Int) = (a : Int) := by rw [IntKind.wrap_u64]; omega
theorem wrapM (a : Nat) : IntKind.u64.wrap (a : Int) = ((a % 18446744073709551616 : Nat) : Int) := by rw [IntKind.wrap_u64]; omega
end Mul

set_option maxHeartbeats 1000000 in
theorem bits_mul64N (x y : Nat) (hx : x < 18446744073709551616) (hy : y < 18446744073709551616) (w : World) :
    Calls Yba.prog 20 #[.int .u64 x, .int .u64 y] w fun e w' => e = .returned (.tuple #[.int .u64 ((x * y / 18446744073709551616 : Nat) : Int), .int .u64 ((x * y % 18446744073709551616 : Nat) : Int)]) ∧ w' = w := by
  obtain ⟨bd, bt, bw, hhi⟩ := Lib.mul64_hi x y hx hy
  have ba := Lib.half_mul_le (a := x / 4294967296) (b := y / 4294967296) (by omega) (by omega)
  have bb := Lib.half_mul_le (a := x / 4294967296) (b := y % 4294967296) (by omega) (by omega)
  have bc := Lib.half_mul_le (a := x % 4294967296) (b := y / 4294967296) (by omega) (by omega)
  have ba' : x / 4294967296 * (y / 4294967296) < 18446744073709551616 := by omega
  have bb' : x / 4294967296 * (y % 4294967296) < 18446744073709551616 := by omega
  have bc' : x % 4294967296 * (y / 4294967296) < 18446744073709551616 := by omega
  have bh1 : x / 4294967296 * (y / 4294967296) + (x / 4294967296 * (y % 4294967296) + x % 4294967296 * (y % 4294967296) / 4294967296) / 4294967296 < 18446744073709551616 := by omega
  have bh : x / 4294967296 * (y / 4294967296) + (x / 4294967296 * (y % 4294967296) + x % 4294967296 * (y % 4294967296) / 4294967296) / 4294967296 + ((x / 4294967296 * (y % 4294967296) + x % 4294967296 * (y % 4294967296) / 4294967296) % 4294967296 + x % 4294967296 * (y / 4294967296)) / 4294967296 < 18446744073709551616 := by omega
  go_enter Yba.func20, Yba.ntmps20
  go_wp2
  simp only [Mul.maskN x hx, Mul.maskN y hy, Mul.divN, Mul.mulN, Mul.addN, Mul.wrapN _ bd, Mul.wrapN _ bb', Mul.wrapN _ bt, Mul.maskN _ bt, Mul.wrapN _ bc', Mul.wrapN _ bw, Mul.wrapN _ ba', Mul.wrapN _ bh1, Mul.wrapN _ bh, Mul.wrapM (x * y)]
  rw [hhi]
  go_ret2
  exact ⟨rfl, rfl⟩

/-- 'hi' and 'lo' are the two words of p. -/
def TwoWords (hi lo p : Int) : Prop := Word lo ∧ 0 ≤ hi ∧ hi < 18446744073709551615 ∧ hi * 18446744073709551616 + lo = p

theorem twoWords_mul (x y : Nat) (hx : x < 18446744073709551616) (hy : y < 18446744073709551616) :
    TwoWords ((x * y / 18446744073709551616 : Nat) : Int) ((x * y % 18446744073709551616 : Nat) : Int) ((x : Int) * y) := by
  have h : x * y ≤ 18446744073709551615 * 18446744073709551615 := Nat.mul_le_mul (by omega) (by omega)
  have e : (x : Int) * y = ((x * y : Nat) : Int) := (Int.natCast_mul x y).symm
  rw [e]
  generalize x * y = p at h
  refine ⟨⟨by omega, by omega⟩, by omega, by omega, by omega⟩

/-- math/bits.Mul64 (20). -/
theorem bits_mul64 (x y : Int) (hx : Word x) (hy : Word y) (w : World) :
    Calls Yba.prog 20 #[.int .u64 x, .int .u64 y] w fun e w' => ∃ hi lo : Int, e = .returned (.tuple #[.int .u64 hi, .int .u64 lo]) ∧ TwoWords hi lo (x * y) ∧ w' = w := by
  obtain ⟨x, rfl⟩ := Int.eq_ofNat_of_zero_le hx.1
  obtain ⟨y, rfl⟩ := Int.eq_ofNat_of_zero_le hy.1
  have hx2 := hx.2
  have hy2 := hy.2
  refine (bits_mul64N x y (by omega) (by omega) w).mono ?_
  rintro e w' ⟨rfl, rfl⟩
  exact ⟨_, _, rfl, twoWords_mul x y (by omega) (by omega), rfl⟩

/-- math/bits.Add64 (21): the model's own entry. -/
theorem bits_add64 (x y c : Int) (hx : 0 ≤ x) (hy : 0 ≤ y) (hc0 : 0 ≤ c) (hc : c ≤ 1) (w : World) : (callFunc 21 #[.int .u64 x, .int .u64 y, .int .u64 c]).run Yba.prog w =
    .ok (.value (.tuple #[.int .u64 ((x + y + c) % 18446744073709551616), .int .u64 ((x + y + c) / 18446744073709551616)])) w := by
  rw [run_callFunc_extern Yba.func21 (by kernel_rfl) (by kernel_rfl) (by kernel_rfl) (e := add64Entry) (by kernel_rfl), run_add64 x y c hx hy hc0 hc]
  simp only [Result.andThen]

end Go.Proofs.Ybulkdbbo
