/-
  Amount.mul64 (11).
-/
import Derived.Test.YbulkdbboAmt
namespace Go.Proofs.Ybulkdbbo
open Go.RowKit Go.Lib

theorem carry_ex (h lo p k : Int) (ht : TwoWords h lo p) (h0 : 0 ≤ k) (h1 : k ≤ 1) : ∃ c : Int, Word c ∧ Hid (c = h + k) ∧ IntKind.u64.wrap (h + k) = c := by
  obtain ⟨_, h2, h3, _⟩ := ht
  exact ⟨h + k, ⟨by omega, by omega⟩, hide rfl, by rw [IntKind.wrap_u64]; omega⟩
theorem word0 : Word 0 := ⟨by omega, by omega⟩

set_option maxHeartbeats 1000000 in
/-- Amount.mul64 (11). -/
theorem amount_mul (a0 a1 a2 a3 m : Int) (ha0 : Word a0) (ha1 : Word a1) (ha2 : Word a2) (ha3 : Word a3) (hm : Word m) (w : World) :
    Calls Yba.prog 11 #[.agg #[.int .u64 a0, .int .u64 a1, .int .u64 a2, .int .u64 a3], .int .u64 m] w fun e w' =>
      ∃ s0 s1 s2 s3 h : Int, e = .returned (.tuple #[.agg #[.int .u64 s0, .int .u64 s1, .int .u64 s2, .int .u64 s3], .int .u64 h]) ∧
        Word s0 ∧ Word s1 ∧ Word s2 ∧ Word s3 ∧ Word h ∧
        Hid (num4 s0 s1 s2 s3 + h * 115792089237316195423570985008687907853269984665640564039457584007913129639936 = num4 (a0 * m) (a1 * m) (a2 * m) (a3 * m)) ∧ Below w.heap.size w w' := by
  go_enter Yba.func11, Yba.ntmps11
  go_wp2
  refine wp_loop_rounds 5 ?_
  rw [rounds_succ]; go_wp2_with fail
  refine (bits_mul64 a0 m ha0 hm _).mono ?_
  rintro e w' ⟨h0, lo0, rfl, t0, rfl⟩
  obtain ⟨s0, k0, w0, l0, g0, e0, r0⟩ := add64_ex lo0 0 0 t0.1 word0 (by omega) (by omega)
  obtain ⟨c1, wc1, ec1, rc1⟩ := carry_ex h0 lo0 _ k0 t0 l0 g0
  go_wp2
  rw [rounds_succ]; go_wp2_with fail
  refine (bits_mul64 a1 m ha1 hm _).mono ?_
  rintro e w' ⟨h1, lo1, rfl, t1, rfl⟩
  obtain ⟨s1, k1, w1, l1, g1, e1, r1⟩ := add64_ex lo1 c1 0 t1.1 wc1 (by omega) (by omega)
  obtain ⟨c2, wc2, ec2, rc2⟩ := carry_ex h1 lo1 _ k1 t1 l1 g1
  go_wp2
  rw [rounds_succ]; go_wp2_with fail
  refine (bits_mul64 a2 m ha2 hm _).mono ?_
  rintro e w' ⟨h2, lo2, rfl, t2, rfl⟩
  obtain ⟨s2, k2, w2, l2, g2, e2, r2⟩ := add64_ex lo2 c2 0 t2.1 wc2 (by omega) (by omega)
  obtain ⟨c3, wc3, ec3, rc3⟩ := carry_ex h2 lo2 _ k2 t2 l2 g2
  go_wp2
  rw [rounds_succ]; go_wp2_with fail
  refine (bits_mul64 a3 m ha3 hm _).mono ?_
  rintro e w' ⟨h3, lo3, rfl, t3, rfl⟩
  obtain ⟨s3, k3, w3, l3, g3, e3, r3⟩ := add64_ex lo3 c3 0 t3.1 wc3 (by omega) (by omega)
  obtain ⟨c4, wc4, ec4, rc4⟩ := carry_ex h3 lo3 _ k3 t3 l3 g3
  go_wp2
  rw [rounds_succ]; go_wp2
  go_returns
  refine ⟨s0, s1, s2, s3, c4, rfl, w0, w1, w2, w3, wc4, ?_, ?_⟩
  · have f0 := unhide e0; have f1 := unhide e1; have f2 := unhide e2; have f3 := unhide e3
    have d1 := unhide ec1; have d2 := unhide ec2; have d3 := unhide ec3; have d4 := unhide ec4
    have p0 := t0.2.2.2; have p1 := t1.2.2.2; have p2 := t2.2.2.2; have p3 := t3.2.2.2
    exact hide (by unfold num4; omega)
  · go_grown
end Go.Proofs.Ybulkdbbo
