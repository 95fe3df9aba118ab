/-
  math/bits.Div64 by 100 (12), with Len64 (32) and LeadingZeros64 (22) at 100.
-/
import Derived.Test.YbulkdbboBits
import Derived.Lib.BitFns
namespace Go.Proofs.Ybulkdbbo
open Go.RowKit Go.Lib

set_option maxHeartbeats 1000000 in
set_option maxRecDepth 100000 in
theorem bits_len100 (w : World) : Calls Yba.prog 32 #[.int .u64 100] w fun e w' => e = .returned (.int .i64 7) ∧ w' = w := by
  go_enter Yba.func32, Yba.ntmps32
  go_wp2
  go_ret
  refine ⟨congrArg Ending.returned (congrArg (Value.int IntKind.i64) ?_), rfl⟩
  kernel_rfl

theorem bits_lead100 (w : World) : Calls Yba.prog 22 #[.int .u64 100] w fun e w' => e = .returned (.int .i64 57) ∧ w' = w := by
  go_enter Yba.func22, Yba.ntmps22
  go_wp2_with (go_at_call 32; refine (bits_len100 _).mono ?_; rintro e w' ⟨rfl, rfl⟩)
  go_ret
  exact ⟨rfl, rfl⟩

set_option maxHeartbeats 1000000 in
theorem bits_div0 (x : Int) (hx : Word x) (w : World) :
    Calls Yba.prog 12 #[.int .u64 0, .int .u64 x, .int .u64 100] w fun e w' => e = .returned (.tuple #[.int .u64 (x / 100), .int .u64 (x % 100)]) ∧ ∃ n, w' = w.drewN n := by
  obtain ⟨h0, h1⟩ := hx
  go_enter Yba.func12, Yba.ntmps12
  go_wp2
  go_quiet (fail)
  go_wp2
  go_ret2
  exact ⟨rfl, _, rfl⟩

/-! ### the plain numbers of the long way (y = 100, normalised by 57 places) -/
theorem ret_two {a b c d : Int} (h1 : a = c) (h2 : b = d) : Ending.returned (.tuple #[.int .u64 a, .int .u64 b]) = .returned (.tuple #[.int .u64 c, .int .u64 d]) := by rw [h1, h2]
theorem dn_and : bits .and .u64 14411518807585587200 4294967295 = 0 := by
  have h := Mul.maskN 14411518807585587200 (by omega)
  exact h
theorem dn_or (r x : Int) (h1 : 1 ≤ r) (h2 : r < 100) (h3 : 0 ≤ x) (h4 : x < 18446744073709551616) :
    bits .or .u64 (r * 144115188075855872) (x / 128) = r * 144115188075855872 + x / 128 := by
  obtain ⟨r, rfl⟩ := Int.eq_ofNat_of_zero_le (show 0 ≤ r by omega)
  obtain ⟨x, rfl⟩ := Int.eq_ofNat_of_zero_le h3
  have e1 : (r : Int) * 144115188075855872 = ((r * 144115188075855872 : Nat) : Int) := by omega
  have e2 : (x : Int) / 128 = ((x / 128 : Nat) : Int) := by omega
  rw [e1, e2, bits_or_u64_nat _ _ (by omega) (by omega)]
  have h := Nat.two_pow_add_eq_or_of_lt (i := 57) (b := x / 128) (by omega) r
  have e3 : r * 144115188075855872 = 2 ^ 57 * r := by omega
  rw [e3, ← h]
  omega
theorem dn_wrap (x : Int) : IntKind.u64.wrap (x * 144115188075855872) = x % 128 * 144115188075855872 := by
  rw [IntKind.wrap_u64]; omega
theorem dn_and0 (x : Int) : bits .and .u64 (x % 128 * 144115188075855872) 4294967295 = 0 := by
  obtain ⟨t, ht⟩ := Int.eq_ofNat_of_zero_le (show 0 ≤ x % 128 by omega)
  have hl : t < 128 := by omega
  rw [ht]
  have e1 : (t : Int) * 144115188075855872 = ((t * 144115188075855872 : Nat) : Int) := by omega
  rw [e1, Mul.maskN _ (by omega)]
  omega
theorem dn_half (x : Int) : x % 128 * 144115188075855872 / 4294967296 = x % 128 * 33554432 := by omega
theorem dn_q1 (u : Int) (h0 : 0 ≤ u) (h1 : u < 14411518807585587200) : IntKind.u64.wrap (u.tdiv 3355443200) = u / 3355443200 := by
  rw [Int.tdiv_eq_ediv_of_nonneg h0, IntKind.wrap_u64]; omega
theorem dn_r1 (u : Int) : IntKind.u64.wrap (u - IntKind.u64.wrap (u / 3355443200 * 3355443200)) = u % 3355443200 := by
  rw [IntKind.wrap_u64, IntKind.wrap_u64]; omega
theorem dn_v (u t : Int) (ht0 : 0 ≤ t) (ht1 : t < 128) :
    IntKind.u64.wrap (IntKind.u64.wrap (IntKind.u64.wrap (u * 4294967296) + t * 33554432) - IntKind.u64.wrap (u / 3355443200 * 14411518807585587200)) = u % 3355443200 * 4294967296 + t * 33554432 := by
  simp only [IntKind.wrap_u64]; omega
theorem dn_rem (v : Int) : IntKind.u64.wrap (IntKind.u64.wrap (IntKind.u64.wrap (v * 4294967296)) - IntKind.u64.wrap (v / 3355443200 * 14411518807585587200)) / 144115188075855872 = v % 3355443200 / 33554432 := by
  simp only [IntKind.wrap_u64]; omega
theorem dn_div (u t N : Int) (h : u * 128 + t = N) :
    u / 3355443200 * 4294967296 + (u % 3355443200 * 4294967296 + t * 33554432) / 3355443200 = N / 100 ∧
    (u % 3355443200 * 4294967296 + t * 33554432) % 3355443200 / 33554432 = N % 100 := by
  constructor <;> omega

set_option maxHeartbeats 1000000 in
theorem bits_div100 (r x : Int) (hx : Word x) (h1 : 1 ≤ r) (h2 : r < 100) (w : World) :
    Calls Yba.prog 12 #[.int .u64 r, .int .u64 x, .int .u64 100] w fun e w' => e = .returned (.tuple #[.int .u64 ((r * 18446744073709551616 + x) / 100), .int .u64 ((r * 18446744073709551616 + x) % 100)]) ∧ w' = w := by
  obtain ⟨h3, h4⟩ := hx
  go_enter Yba.func12, Yba.ntmps12
  go_wp2_with (go_at_call 22; refine (bits_lead100 _).mono ?_; rintro e w' ⟨rfl, rfl⟩)
  simp only [dn_and, dn_or r x h1 h2 h3 h4, dn_wrap, dn_half, dn_and0]
  have hu0 : 0 ≤ r * 144115188075855872 + x / 128 := by omega
  have hu1 : r * 144115188075855872 + x / 128 < 14411518807585587200 := by omega
  have ht0 : 0 ≤ x % 128 := by omega
  have ht1 : x % 128 < 128 := by omega
  have HX : Hid ((r * 144115188075855872 + x / 128) * 128 + x % 128 = r * 18446744073709551616 + x) := hide (by omega)
  generalize r * 144115188075855872 + x / 128 = u at hu0 hu1 HX ⊢
  generalize x % 128 = t at ht0 ht1 HX ⊢
  simp only [dn_q1 u hu0 hu1, dn_r1 u]
  have hq0 : 0 ≤ u / 3355443200 := by omega
  have hq1 : u / 3355443200 < 4294967296 := by omega
  have hr0 : 0 ≤ u % 3355443200 := by omega
  have hr1 : u % 3355443200 < 3355443200 := by omega
  refine wp_loop_rounds 1 ?_
  rw [rounds_succ]
  go_wp2
  have hv0 : 0 ≤ u % 3355443200 * 4294967296 + t * 33554432 := by omega
  have hv1 : u % 3355443200 * 4294967296 + t * 33554432 < 14411518807585587200 := by omega
  have HD := hide (dn_div u t _ (unhide HX))
  simp only [dn_v u t ht0 ht1]
  generalize u % 3355443200 * 4294967296 + t * 33554432 = v at hv0 hv1 HD ⊢
  simp only [dn_q1 v hv0 hv1, dn_r1 v]
  have hq2 : 0 ≤ v / 3355443200 := by omega
  have hq3 : v / 3355443200 < 4294967296 := by omega
  have hr2 : 0 ≤ v % 3355443200 := by omega
  have hr3 : v % 3355443200 < 3355443200 := by omega
  refine wp_loop_rounds 1 ?_
  rw [rounds_succ]
  go_wp2
  go_ret2
  exact ⟨ret_two (unhide HD).1 ((dn_rem v).trans (unhide HD).2), rfl⟩

/-- q and r are the quotient and the remainder of n by 100. -/
def Quo100 (n q r : Int) : Prop := Word q ∧ 0 ≤ r ∧ r < 100 ∧ q * 100 + r = n

theorem quo100_mk (r x : Int) (hx : Word x) (h1 : 0 ≤ r) (h2 : r < 100) : Quo100 (r * 18446744073709551616 + x) ((r * 18446744073709551616 + x) / 100) ((r * 18446744073709551616 + x) % 100) := by
  obtain ⟨h3, h4⟩ := hx
  refine ⟨⟨?_, ?_⟩, ?_, ?_, ?_⟩ <;> omega

/-- math/bits.Div64 (12) by 100: what it is for here. -/
theorem bits_div (r x : Int) (hx : Word x) (h1 : 0 ≤ r) (h2 : r < 100) (w : World) :
    Calls Yba.prog 12 #[.int .u64 r, .int .u64 x, .int .u64 100] w fun e w' => ∃ q s : Int, e = .returned (.tuple #[.int .u64 q, .int .u64 s]) ∧ Quo100 (r * 18446744073709551616 + x) q s ∧ ∃ n, w' = w.drewN n := by
  have hm := quo100_mk r x hx h1 h2
  by_cases h0 : r = 0
  · subst h0
    refine (bits_div0 x hx w).mono ?_
    rintro e w' ⟨rfl, n, rfl⟩
    have e0 : (0 : Int) * 18446744073709551616 + x = x := by omega
    rw [e0] at hm ⊢
    exact ⟨_, _, rfl, hm, n, rfl⟩
  · refine (bits_div100 r x hx (by omega) h2 w).mono ?_
    rintro e w' ⟨rfl, rfl⟩
    exact ⟨_, _, rfl, hm, 0, rfl⟩
end Go.Proofs.Ybulkdbbo
