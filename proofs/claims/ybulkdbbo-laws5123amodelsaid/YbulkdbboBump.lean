/-
  Amount.bump (6).
-/
import Derived.Test.YbulkdbboFour
import Derived.Deep.RegionWith
import Derived.Deep.DeepCutAuto
namespace Go.Proofs.Ybulkdbbo
open Go.RowKit Go.Lib

theorem word1 : Word 1 := ⟨by omega, by omega⟩
attribute [local go_sem] setCell_drewN
attribute [local go_sem] alloc_drewN

/-- What bump answers: (s + t * 2^256) * 100 is a * 100 + a * m, rounded up to a multiple of 100; o says whether t is not 0. -/
def Bumped (a0 a1 a2 a3 m s0 s1 s2 s3 : Int) (o : Bool) : Prop :=
  ∃ t z : Int, 0 ≤ t ∧ 0 ≤ z ∧ z ≤ 99 ∧ (num4 s0 s1 s2 s3 + t * 115792089237316195423570985008687907853269984665640564039457584007913129639936) * 100 = num4 a0 a1 a2 a3 * 100 + num4 (a0 * m) (a1 * m) (a2 * m) (a3 * m) + z ∧ o = (t != 0)

/-- Half way: a * m by 100, rounded up. -/
def Part (n t0 t1 t2 t3 : Int) (o : Bool) : Prop :=
  ∃ k z : Int, 0 ≤ k ∧ 0 ≤ z ∧ z ≤ 99 ∧ (num4 t0 t1 t2 t3 + k * 115792089237316195423570985008687907853269984665640564039457584007913129639936) * 100 = n + z ∧ o = (k != 0)

theorem part_exact {a0 a1 a2 a3 p0 p1 p2 p3 h q4 r4 q3 r3 q2 r2 q1 r1 q0 r0 : Int}
    (HM : Hid (num4 p0 p1 p2 p3 + h * 115792089237316195423570985008687907853269984665640564039457584007913129639936 = num4 a0 a1 a2 a3))
    (d4 : Quo100 (0 * 18446744073709551616 + h) q4 r4) (d3 : Quo100 (r4 * 18446744073709551616 + p3) q3 r3) (d2 : Quo100 (r3 * 18446744073709551616 + p2) q2 r2)
    (d1 : Quo100 (r2 * 18446744073709551616 + p1) q1 r1) (d0 : Quo100 (r1 * 18446744073709551616 + p0) q0 r0) (hr : (r0 != 0) = false) :
    Part (num4 a0 a1 a2 a3) q0 q1 q2 q3 (q4 != 0) := by
  have e := unhide HM
  obtain ⟨w4, _, _, e4⟩ := d4; obtain ⟨_, _, _, e3⟩ := d3; obtain ⟨_, _, _, e2⟩ := d2; obtain ⟨_, _, _, e1⟩ := d1; obtain ⟨_, _, _, e0⟩ := d0
  have hr' : r0 = 0 := by simpa using hr
  refine ⟨q4, 0, w4.1, by omega, by omega, ?_, rfl⟩
  rw [← e]
  unfold num4
  omega

theorem part_up {a0 a1 a2 a3 p0 p1 p2 p3 h q4 r4 q3 r3 q2 r2 q1 r1 q0 r0 t0 t1 t2 t3 k : Int}
    (HM : Hid (num4 p0 p1 p2 p3 + h * 115792089237316195423570985008687907853269984665640564039457584007913129639936 = num4 a0 a1 a2 a3))
    (d4 : Quo100 (0 * 18446744073709551616 + h) q4 r4) (d3 : Quo100 (r4 * 18446744073709551616 + p3) q3 r3) (d2 : Quo100 (r3 * 18446744073709551616 + p2) q2 r2)
    (d1 : Quo100 (r2 * 18446744073709551616 + p1) q1 r1) (d0 : Quo100 (r1 * 18446744073709551616 + p0) q0 r0) (hr : (r0 != 0) = true)
    (HT : Hid (num4 t0 t1 t2 t3 + k * 115792089237316195423570985008687907853269984665640564039457584007913129639936 = num4 q0 q1 q2 q3 + num4 1 0 0 0)) (hk : 0 ≤ k) :
    Part (num4 a0 a1 a2 a3) t0 t1 t2 t3 (q4 != 0 || k != 0) := by
  have e := unhide HM
  have f := unhide HT
  obtain ⟨w4, _, _, e4⟩ := d4; obtain ⟨_, _, _, e3⟩ := d3; obtain ⟨_, _, _, e2⟩ := d2; obtain ⟨_, _, _, e1⟩ := d1; obtain ⟨_, g0, g1, e0⟩ := d0
  have hr' : r0 ≠ 0 := by simpa using hr
  have w40 := w4.1
  refine ⟨q4 + k, 100 - r0, by omega, by omega, by omega, ?_, ?_⟩
  · rw [← e]
    unfold num4 at f ⊢
    omega
  · rw [Bool.eq_iff_iff]
    simp
    omega

theorem bumped_no {a0 a1 a2 a3 m t0 t1 t2 t3 s0 s1 s2 s3 k : Int} (HP : Part (num4 (a0 * m) (a1 * m) (a2 * m) (a3 * m)) t0 t1 t2 t3 false)
    (HS : Hid (num4 s0 s1 s2 s3 + k * 115792089237316195423570985008687907853269984665640564039457584007913129639936 = num4 a0 a1 a2 a3 + num4 t0 t1 t2 t3)) (hk : 0 ≤ k) :
    Bumped a0 a1 a2 a3 m s0 s1 s2 s3 (k != 0) := by
  have e := unhide HS
  obtain ⟨c, z, hc, hz0, hz1, f, g⟩ := HP
  have hc0 : c = 0 := by simpa using g.symm
  exact ⟨k, z, hk, hz0, hz1, by omega, rfl⟩

theorem bumped_yes {a0 a1 a2 a3 m t0 t1 t2 t3 s0 s1 s2 s3 k : Int} (HP : Part (num4 (a0 * m) (a1 * m) (a2 * m) (a3 * m)) t0 t1 t2 t3 true)
    (HS : Hid (num4 s0 s1 s2 s3 + k * 115792089237316195423570985008687907853269984665640564039457584007913129639936 = num4 a0 a1 a2 a3 + num4 t0 t1 t2 t3)) (hk : 0 ≤ k) :
    Bumped a0 a1 a2 a3 m s0 s1 s2 s3 true := by
  have e := unhide HS
  obtain ⟨c, z, hc, hz0, hz1, f, g⟩ := HP
  have hc0 : c ≠ 0 := by simpa using g.symm
  refine ⟨c + k, z, by omega, hz0, hz1, by omega, ?_⟩
  have : c + k ≠ 0 := by omega
  simpa using this

set_option maxHeartbeats 1000000 in
/-- Amount.bump (6). -/
theorem amount_bump (a0 a1 a2 a3 m : Int) (ha0 : Word a0) (ha1 : Word a1) (ha2 : Word a2) (ha3 : Word a3) (hm : Word m) (w : World) :
    Calls Yba.prog 6 #[.agg #[.int .u64 a0, .int .u64 a1, .int .u64 a2, .int .u64 a3], .int .u64 m] w fun e w' =>
      ∃ (s0 s1 s2 s3 : Int) (o : Bool), e = .returned (.tuple #[.agg #[.int .u64 s0, .int .u64 s1, .int .u64 s2, .int .u64 s3], .bool o]) ∧
        Word s0 ∧ Word s1 ∧ Word s2 ∧ Word s3 ∧ Bumped a0 a1 a2 a3 m s0 s1 s2 s3 o ∧ Below w.heap.size w w' := by
  go_enter Yba.func6, Yba.ntmps6
  go_wp2_with fail
  have FA := ((Four.new w a0 a1 a2 a3 25).alloc (.cells #[.int .u64 0, .int .u64 0, .int .u64 0, .int .u64 0] 25))
  have FR := Four.new (w.alloc (.cells #[.int .u64 a0, .int .u64 a1, .int .u64 a2, .int .u64 a3] 25)) 0 0 0 0 25
  rw [World.size_alloc] at FR
  have B0 : Below w.heap.size w ((w.alloc (.cells #[.int .u64 a0, .int .u64 a1, .int .u64 a2, .int .u64 a3] 25)).alloc (.cells #[.int .u64 0, .int .u64 0, .int .u64 0, .int .u64 0] 25)) := by go_grown
  refine (amount_mul a0 a1 a2 a3 m ha0 ha1 ha2 ha3 hm _).mono ?_
  rintro e w1 ⟨p0, p1, p2, p3, h, rfl, hp0, hp1, hp2, hp3, hh, HM, hb⟩
  have FA1 := FA.later hb
  have FR1 := FR.later hb
  have B1 := B0.trans (hb.mono (by simp; omega))
  clear FA FR B0 hb
  go_wp2_with fail
  refine (bits_div 0 h hh (by omega) (by omega) _).mono ?_
  rintro e w' ⟨q4, r4, rfl, d4, n4, rfl⟩
  go_wp2_with fail
  refine wp_loop_rounds 5 ?_
  rw [rounds_succ]; go_wp2_with fail
  refine (bits_div r4 p3 hp3 d4.2.1 d4.2.2.1 _).mono ?_
  rintro e w' ⟨q3, r3, rfl, d3, n3, rfl⟩
  go_wp2_with fail
  rw [rounds_succ]; go_wp2_with fail
  refine (bits_div r3 p2 hp2 d3.2.1 d3.2.2.1 _).mono ?_
  rintro e w' ⟨q2, r2, rfl, d2, n2, rfl⟩
  go_wp2_with fail
  rw [rounds_succ]; go_wp2_with fail
  refine (bits_div r2 p1 hp1 d2.2.1 d2.2.2.1 _).mono ?_
  rintro e w' ⟨q1, r1, rfl, d1, n1, rfl⟩
  go_wp2_with fail
  rw [rounds_succ]; go_wp2_with fail
  refine (bits_div r1 p0 hp0 d1.2.1 d1.2.2.1 _).mono ?_
  rintro e w' ⟨q0, r0, rfl, d0, n0, rfl⟩
  go_wp2_with fail
  rw [rounds_succ]
  go_upto_if 44 with fail
  generalize n4 + n3 + n2 + n1 + n0 = nn
  have FA2 := (FA1.alloc (.cells #[.int .u64 q0, .int .u64 q1, .int .u64 q2, .int .u64 q3] 25)).drawn nn
  have FR2 := (FR1.alloc (.cells #[.int .u64 q0, .int .u64 q1, .int .u64 q2, .int .u64 q3] 25)).drawn nn
  have FP2 := (Four.new w1 q0 q1 q2 q3 25).drawn nn
  have B2 := below_drawn (B1.alloc B1.size (.cells #[.int .u64 q0, .int .u64 q1, .int .u64 q2, .int .u64 q3] 25)) nn
  have hz0 := FA1.lt
  have hz1 := FR1.lt
  clear FA1 FR1 B1
  generalize (w1.alloc (.cells #[.int .u64 q0, .int .u64 q1, .int .u64 q2, .int .u64 q3] 25)).drewN nn = W2 at FA2 FR2 FP2 B2 ⊢
  generalize hbp : w1.heap.size = bp at *
  clear hbp
  go_cut [10] (fun over wc => ∃ (t0 t1 t2 t3 : Int) (o : Bool), over = .bool o ∧ Word t0 ∧ Word t1 ∧ Word t2 ∧ Word t3 ∧ Part (num4 (a0 * m) (a1 * m) (a2 * m) (a3 * m)) t0 t1 t2 t3 o ∧ Four wc w.heap.size a0 a1 a2 a3 ∧ Four wc (w.heap.size + 1) 0 0 0 0 ∧ Four wc bp t0 t1 t2 t3 ∧ Below w.heap.size w wc)
  case first =>
    have hlt0 := FA2.lt
    have hlt1 := FR2.lt
    have hlt2 := FP2.lt
    cases hrb : (r0 != 0)
    · go_wp2_with fail
      go_meet
      case rel => exact ⟨q0, q1, q2, q3, _, rfl, d0.1, d1.1, d2.1, d3.1, part_exact HM d4 d3 d2 d1 d0 hrb, FA2, FR2, FP2, B2⟩
    · have FP3 := FP2
      obtain ⟨⟨c0, c1, c2, c3⟩, f0, f1, f2, f3⟩ := FP2
      cases hq : (q4 != 0)
      all_goals
        go_wp2_with fail
        go_region_with (first
          | (go_at_call 8; refine (newAmount 1 _).mono ?_; rintro e w2 ⟨rfl, hb1⟩; have FP4 := FP3.drew.later hb1; obtain ⟨⟨cc0, cc1, cc2, cc3⟩, ff0, ff1, ff2, ff3⟩ := FP4)
          | (go_at_call 13; refine (amount_add q0 q1 q2 q3 1 0 0 0 d0.1 d1.1 d2.1 d3.1 word1 word0 word0 word0 _).mono ?_; rintro e w3 ⟨t0, t1, t2, t3, k1, rfl, ht0, ht1, ht2, ht3, hl0, hl1, HT, hb2⟩; have FP5 := (FP3.drew.later hb1).later hb2; obtain ⟨⟨ccc0, ccc1, ccc2, ccc3⟩, fff0, fff1, fff2, fff3⟩ := FP5))
      all_goals
        have HU := part_up HM d4 d3 d2 d1 d0 hrb HT hl0
        rw [hq] at HU
        have FA6 := (FA2.drew.later hb1).later hb2
        have FR6 := (FR2.drew.later hb1).later hb2
        have FP6 := (FP3.drew.later hb1).later hb2
        have B6 := (B2.drew.trans (hb1.mono B2.size)).trans (hb2.mono (B2.drew.trans (hb1.mono B2.size)).size)
        go_wp2_with fail
        go_meet
        case rel => exact ⟨t0, t1, t2, t3, _, rfl, ht0, ht1, ht2, ht3, by simpa using HU, FA6.aside4 (by omega) _ _ _ _, FR6.aside4 (by omega) _ _ _ _, FP6.stored _ _ _ _, below_set4 B6 (by omega) _ _ _ _⟩
  case rest =>
    obtain ⟨t0, t1, t2, t3, o, rfl, ht0, ht1, ht2, ht3, HP, FA3, FR3, FP3, B3⟩ := hcut
    have FA4 := FA3
    have FP4 := FP3
    obtain ⟨⟨ca0, ca1, ca2, ca3⟩, -⟩ := FA4
    obtain ⟨⟨cp0, cp1, cp2, cp3⟩, -⟩ := FP4
    go_wp2_with fail
    refine (amount_add a0 a1 a2 a3 t0 t1 t2 t3 ha0 ha1 ha2 ha3 ht0 ht1 ht2 ht3 _).mono ?_
    rintro e w3 ⟨s0, s1, s2, s3, k, rfl, hs0, hs1, hs2, hs3, hk0, hk1, HS, hb3⟩
    have FR4 := FR3.later hb3
    have hlt := FR4.lt
    have B4 := (B3.trans (hb3.mono B3.size))
    obtain ⟨⟨cr0, cr1, cr2, cr3⟩, fr0, fr1, fr2, fr3⟩ := FR4
    clear ca0 ca1 ca2 ca3 cp0 cp1 cp2 cp3
    cases o
    all_goals
      go_wp2_with fail
      refine bodyPost_ret (v := .tuple #[.agg #[.int .u64 s0, .int .u64 s1, .int .u64 s2, .int .u64 s3], _]) (by simp [results, Yba.results6, go_sem, cr0, cr1, cr2, cr3, hlt]; rfl) rfl ?_
      refine ⟨s0, s1, s2, s3, _, rfl, hs0, hs1, hs2, hs3, ?_, ?_⟩
    · exact bumped_no HP HS hk0
    · go_grown
    · exact bumped_yes HP HS hk0
    · go_grown
end Go.Proofs.Ybulkdbbo
