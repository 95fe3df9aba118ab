/-
  NewAmount (8) and Amount.add (13).
-/
import Derived.Test.YbulkdbboDiv
import Derived.Below
import Derived.RegionTactic
import Derived.BigRegion
namespace Go.Proofs.Ybulkdbbo
open Go.RowKit Go.Lib

/-- math/bits.Add64 as a rule for a walk: the two numbers under names. -/
theorem add64_ex (x y c : Int) (hx : Word x) (hy : Word y) (hc0 : 0 ≤ c) (hc : c ≤ 1) :
    ∃ s k : Int, Word s ∧ 0 ≤ k ∧ k ≤ 1 ∧ Hid (k * 18446744073709551616 + s = x + y + c) ∧
      ∀ w, (callFunc 21 #[.int .u64 x, .int .u64 y, .int .u64 c]).run Yba.prog w = .ok (.value (.tuple #[.int .u64 s, .int .u64 k])) w := by
  obtain ⟨h1, h2⟩ := hx
  obtain ⟨h3, h4⟩ := hy
  refine ⟨_, _, ?_, ?_, ?_, ?_, fun w => bits_add64 x y c h1 h3 hc0 hc w⟩
  · exact ⟨by omega, by omega⟩
  · omega
  · omega
  · exact hide (by omega)

/-- The number that four words spell. -/
def num4 (a0 a1 a2 a3 : Int) : Int := a0 + a1 * 18446744073709551616 + a2 * 340282366920938463463374607431768211456 + a3 * 6277101735386680763835789423207666416102355444464034512896

/-- NewAmount (8). -/
theorem newAmount (v : Int) (w : World) :
    Calls Yba.prog 8 #[.int .u64 v] w fun e w' => e = .returned (.agg #[.int .u64 v, .int .u64 0, .int .u64 0, .int .u64 0]) ∧ Below w.heap.size w w' := by
  go_enter Yba.func8, Yba.ntmps8
  go_wp2
  go_returns
  refine ⟨rfl, ?_⟩
  go_grown

set_option maxHeartbeats 1000000 in
theorem amount_add (a0 a1 a2 a3 b0 b1 b2 b3 : Int) (ha0 : Word a0) (ha1 : Word a1) (ha2 : Word a2) (ha3 : Word a3) (hb0 : Word b0) (hb1 : Word b1) (hb2 : Word b2) (hb3 : Word b3) (w : World) :
    Calls Yba.prog 13 #[.agg #[.int .u64 a0, .int .u64 a1, .int .u64 a2, .int .u64 a3], .agg #[.int .u64 b0, .int .u64 b1, .int .u64 b2, .int .u64 b3]] w fun e w' =>
      ∃ s0 s1 s2 s3 k : Int, e = .returned (.tuple #[.agg #[.int .u64 s0, .int .u64 s1, .int .u64 s2, .int .u64 s3], .bool (k != 0)]) ∧
        Word s0 ∧ Word s1 ∧ Word s2 ∧ Word s3 ∧ 0 ≤ k ∧ k ≤ 1 ∧
        Hid (num4 s0 s1 s2 s3 + k * 115792089237316195423570985008687907853269984665640564039457584007913129639936 = num4 a0 a1 a2 a3 + num4 b0 b1 b2 b3) ∧ Below w.heap.size w w' := by
  obtain ⟨s0, k0, w0, l0, g0, e0, r0⟩ := add64_ex a0 b0 0 ha0 hb0 (by omega) (by omega)
  obtain ⟨s1, k1, w1, l1, g1, e1, r1⟩ := add64_ex a1 b1 k0 ha1 hb1 l0 g0
  obtain ⟨s2, k2, w2, l2, g2, e2, r2⟩ := add64_ex a2 b2 k1 ha2 hb2 l1 g1
  obtain ⟨s3, k3, w3, l3, g3, e3, r3⟩ := add64_ex a3 b3 k2 ha3 hb3 l2 g2
  go_enter Yba.func13, Yba.ntmps13
  go_wp2
  refine wp_loop_rounds 5 ?_
  iterate 4 (rw [rounds_succ]; go_wp2; go_region; go_wp2)
  rw [rounds_succ]; go_wp2
  go_returns
  refine ⟨s0, s1, s2, s3, k3, rfl, w0, w1, w2, w3, l3, g3, ?_, ?_⟩
  · have f0 := unhide e0; have f1 := unhide e1; have f2 := unhide e2; have f3 := unhide e3
    exact hide (by unfold num4; omega)
  · go_grown
end Go.Proofs.Ybulkdbbo
