/-
  zzs5123amodel (7).
-/
import Derived.Test.YbulkdbboMuladd
namespace Go.Proofs.Ybulkdbbo
open Go.RowKit Go.Lib
attribute [local go_sem] setCell_drewN
attribute [local go_sem] alloc_drewN

/-- What the model answers. -/
def Modelled (a0 a1 a2 a3 m s0 s1 s2 s3 : Int) (o : Bool) : Prop :=
  ∃ t z : Int, 0 ≤ t ∧ 0 ≤ z ∧ z ≤ 99 ∧ (num4 s0 s1 s2 s3 + t * 115792089237316195423570985008687907853269984665640564039457584007913129639936) * 100 = num4 a0 a1 a2 a3 * 100 + num4 (a0 * m) (a1 * m) (a2 * m) (a3 * m) + z ∧ o = (t != 0)

theorem rowAt_zero (w : World) (t : TypeId) : RowAt (w.alloc (.cells #[.int .u64 0, .int .u64 0, .int .u64 0, .int .u64 0, .int .u64 0, .int .u64 0] t)) w.heap.size [0, 0, 0, 0, 0, 0] := by
  intro i hi
  simp at hi
  have : i = 0 ∨ i = 1 ∨ i = 2 ∨ i = 3 ∨ i = 4 ∨ i = 5 := by omega
  rcases this with rfl | rfl | rfl | rfl | rfl | rfl <;> simp
theorem allWords_zero : AllWords [0, 0, 0, 0, 0, 0] := by
  intro i hi
  simp at hi
  have : i = 0 ∨ i = 1 ∨ i = 2 ∨ i = 3 ∨ i = 4 ∨ i = 5 := by omega
  rcases this with rfl | rfl | rfl | rfl | rfl | rfl <;> exact word0
theorem word100 : Word 100 := ⟨by omega, by omega⟩
theorem word99 : Word 99 := ⟨by omega, by omega⟩
theorem num4_le {a0 a1 a2 a3 m : Int} (ha0 : Word a0) (ha1 : Word a1) (ha2 : Word a2) (ha3 : Word a3) (hm : Word m) :
    0 ≤ num4 (a0 * m) (a1 * m) (a2 * m) (a3 * m) ∧ num4 (a0 * m) (a1 * m) (a2 * m) (a3 * m) ≤ num4 (18446744073709551615 * 18446744073709551615) (18446744073709551615 * 18446744073709551615) (18446744073709551615 * 18446744073709551615) (18446744073709551615 * 18446744073709551615) := by
  obtain ⟨x0, y0⟩ := ha0; obtain ⟨x1, y1⟩ := ha1; obtain ⟨x2, y2⟩ := ha2; obtain ⟨x3, y3⟩ := ha3; obtain ⟨xm, ym⟩ := hm
  have b0 : a0 * m ≤ 18446744073709551615 * 18446744073709551615 := Int.mul_le_mul (by omega) (by omega) xm (by omega)
  have b1 : a1 * m ≤ 18446744073709551615 * 18446744073709551615 := Int.mul_le_mul (by omega) (by omega) xm (by omega)
  have b2 : a2 * m ≤ 18446744073709551615 * 18446744073709551615 := Int.mul_le_mul (by omega) (by omega) xm (by omega)
  have b3 : a3 * m ≤ 18446744073709551615 * 18446744073709551615 := Int.mul_le_mul (by omega) (by omega) xm (by omega)
  have c0 : 0 ≤ a0 * m := Int.mul_nonneg x0 xm
  have c1 : 0 ≤ a1 * m := Int.mul_nonneg x1 xm
  have c2 : 0 ≤ a2 * m := Int.mul_nonneg x2 xm
  have c3 : 0 ≤ a3 * m := Int.mul_nonneg x3 xm
  unfold num4
  constructor <;> omega

theorem or_ne {x y : Int} (hx : Word x) (hy : Word y) : (bits .or .u64 x y != 0) = (x + y * 18446744073709551616 != 0) := by
  obtain ⟨x0, x1⟩ := hx
  obtain ⟨y0, y1⟩ := hy
  obtain ⟨x, rfl⟩ := Int.eq_ofNat_of_zero_le x0
  obtain ⟨y, rfl⟩ := Int.eq_ofNat_of_zero_le y0
  rw [bits_or_u64_nat x y (by omega) (by omega), Bool.eq_iff_iff]
  have h : x ||| y = 0 ↔ x = 0 ∧ y = 0 := Nat.or_eq_zero_iff
  simp only [bne_iff_ne, ne_eq]
  constructor
  · intro k e
    exact k (by rw [h.2 ⟨by omega, by omega⟩]; rfl)
  · intro k e
    have e' : x ||| y = 0 := by omega
    obtain ⟨e1, e2⟩ := h.1 e'
    exact k (by omega)

theorem modelled {a0 a1 a2 a3 m z0 z1 z2 z3 z4 z5 q0 q1 q2 q3 q4 q5 r0 r1 r2 r3 r4 r5 : Int}
    (E : Hid (val [z0, z1, z2, z3, z4, z5] = num4 (a0 * 100) (a1 * 100) (a2 * 100) (a3 * 100) + num4 (a0 * m) (a1 * m) (a2 * m) (a3 * m) + 99))
    (d5 : Quo100 (0 * 18446744073709551616 + z5) q5 r5) (d4 : Quo100 (r5 * 18446744073709551616 + z4) q4 r4) (d3 : Quo100 (r4 * 18446744073709551616 + z3) q3 r3) (d2 : Quo100 (r3 * 18446744073709551616 + z2) q2 r2)
    (d1 : Quo100 (r2 * 18446744073709551616 + z1) q1 r1) (d0 : Quo100 (r1 * 18446744073709551616 + z0) q0 r0) :
    Modelled a0 a1 a2 a3 m q0 q1 q2 q3 (bits .or .u64 q4 q5 != 0) := by
  have e := unhide E
  obtain ⟨w5, _, _, e5⟩ := d5; obtain ⟨w4, _, _, e4⟩ := d4; obtain ⟨_, _, _, e3⟩ := d3; obtain ⟨_, _, _, e2⟩ := d2; obtain ⟨_, _, _, e1⟩ := d1; obtain ⟨_, g0, g1, e0⟩ := d0
  have l5 := w5.1
  have l4 := w4.1
  refine ⟨q4 + q5 * 18446744073709551616, 99 - r0, by omega, by omega, by omega, ?_, or_ne w4 w5⟩
  simp only [val] at e
  unfold num4 at e ⊢
  omega

set_option maxHeartbeats 1000000 in
theorem model (a0 a1 a2 a3 m : Int) (ha0 : Word a0) (ha1 : Word a1) (ha2 : Word a2) (ha3 : Word a3) (hm : Word m) (w : World) :
    Calls Yba.prog 7 #[.agg #[.int .u64 a0, .int .u64 a1, .int .u64 a2, .int .u64 a3], .int .u64 m] w fun e w' =>
      ∃ (s0 s1 s2 s3 : Int) (o : Bool), e = .returned (.tuple #[.agg #[.int .u64 s0, .int .u64 s1, .int .u64 s2, .int .u64 s3], .bool o]) ∧
        Word s0 ∧ Word s1 ∧ Word s2 ∧ Word s3 ∧ Modelled a0 a1 a2 a3 m s0 s1 s2 s3 o ∧ Below w.heap.size w w' := by
  have HN := hide (num4_le ha0 ha1 ha2 ha3 hm)
  have HH := hide (num4_le ha0 ha1 ha2 ha3 word100)
  go_enter Yba.func7, Yba.ntmps7
  go_wp2_with fail
  have FA := ((Four.new w a0 a1 a2 a3 23).alloc (.cells #[.int .u64 0, .int .u64 0, .int .u64 0, .int .u64 0] 23)).alloc (.cells #[.int .u64 0, .int .u64 0, .int .u64 0, .int .u64 0, .int .u64 0, .int .u64 0] 69)
  have FR := (Four.new (w.alloc (.cells #[.int .u64 a0, .int .u64 a1, .int .u64 a2, .int .u64 a3] 23)) 0 0 0 0 23).alloc (.cells #[.int .u64 0, .int .u64 0, .int .u64 0, .int .u64 0, .int .u64 0, .int .u64 0] 69)
  have R0 := rowAt_zero ((w.alloc (.cells #[.int .u64 a0, .int .u64 a1, .int .u64 a2, .int .u64 a3] 23)).alloc (.cells #[.int .u64 0, .int .u64 0, .int .u64 0, .int .u64 0] 23)) 69
  have B0 : Below w.heap.size w (((w.alloc (.cells #[.int .u64 a0, .int .u64 a1, .int .u64 a2, .int .u64 a3] 23)).alloc (.cells #[.int .u64 0, .int .u64 0, .int .u64 0, .int .u64 0] 23)).alloc (.cells #[.int .u64 0, .int .u64 0, .int .u64 0, .int .u64 0, .int .u64 0, .int .u64 0] 69)) := by go_grown
  rw [World.size_alloc] at FR
  rw [World.size_alloc, World.size_alloc] at R0
  generalize (((w.alloc (.cells #[.int .u64 a0, .int .u64 a1, .int .u64 a2, .int .u64 a3] 23)).alloc (.cells #[.int .u64 0, .int .u64 0, .int .u64 0, .int .u64 0] 23)).alloc (.cells #[.int .u64 0, .int .u64 0, .int .u64 0, .int .u64 0, .int .u64 0, .int .u64 0] 69)) = W0 at FA FR R0 B0 ⊢
  refine (muladd _ a0 a1 a2 a3 100 [0, 0, 0, 0, 0, 0] _ ha0 ha1 ha2 ha3 word100 rfl allWords_zero R0 (hide (by have f := unhide HH; rw [pow6]; unfold num4 at f ⊢; simp only [val]; omega))).mono ?_
  rintro e W1 ⟨rfl, y1, hy1, ay1, R1, E1, S1⟩
  have FA1 := FA.rest S1 (by omega)
  have FR1 := FR.rest S1 (by omega)
  have B1 := B0.trans (S1.below (by omega) B0.size)
  clear FA FR R0 B0 S1
  obtain ⟨⟨ca0, ca1, ca2, ca3⟩, -⟩ := id FA1
  go_wp2_with fail
  clear ca0 ca1 ca2 ca3
  refine (muladd _ a0 a1 a2 a3 m y1 _ ha0 ha1 ha2 ha3 hm hy1 ay1 R1 (hide (by have f := unhide HH; have g := unhide HN; have e1 := unhide E1; rw [e1, pow6]; unfold num4 at f g ⊢; simp only [val]; omega))).mono ?_
  rintro e W2 ⟨rfl, y2, hy2, ay2, R2, E2, S2⟩
  have FR2 := FR1.rest S2 (by omega)
  have B2 := B1.trans (S2.below (by omega) B1.size)
  clear FA1 FR1 R1 B1 S2
  go_wp2_with fail
  refine (addat _ 0 99 y2 _ _ (by omega) word99 hy2 ay2 R2 (hide rfl) (hide (by have f := unhide HH; have g := unhide HN; have e1 := unhide E1; have e2 := unhide E2; rw [e2, e1, pow6, pow0]; unfold num4 at f g ⊢; simp only [val]; omega))).mono ?_
  rintro e W3 ⟨rfl, y3, hy3, ay3, R3, E3, S3⟩
  have FR3 := FR2.but S3 (by omega)
  have B3 := B2.trans (S3.below (by omega))
  clear FR2 R2 B2 S3
  have E : Hid (val y3 = num4 (a0 * 100) (a1 * 100) (a2 * 100) (a3 * 100) + num4 (a0 * m) (a1 * m) (a2 * m) (a3 * m) + 99) := hide (by have e1 := unhide E1; have e2 := unhide E2; have e3 := unhide E3; rw [e3, e2, e1, pow0]; simp only [val]; omega)
  clear E1 E2 E3 hy1 ay1 hy2 ay2
  match y3, hy3 with
  | [z0, z1, z2, z3, z4, z5], _ =>
    have wz0 : Word z0 := ay3 0 (by simp)
    have wz1 : Word z1 := ay3 1 (by simp)
    have wz2 : Word z2 := ay3 2 (by simp)
    have wz3 : Word z3 := ay3 3 (by simp)
    have wz4 : Word z4 := ay3 4 (by simp)
    have wz5 : Word z5 := ay3 5 (by simp)
    obtain ⟨c0, f0⟩ := R3 0 (by simp)
    obtain ⟨c1, f1⟩ := R3 1 (by simp)
    obtain ⟨c2, f2⟩ := R3 2 (by simp)
    obtain ⟨c3, f3⟩ := R3 3 (by simp)
    obtain ⟨c4, f4⟩ := R3 4 (by simp)
    obtain ⟨c5, f5⟩ := R3 5 (by simp)
    simp only [List.getD_cons_zero, List.getD_cons_succ] at c0 c1 c2 c3 c4 c5
    have hbw : w.heap.size + 1 < w.heap.size + 1 + 1 := by omega
    generalize w.heap.size + 1 + 1 = b at *
    go_wp2_with fail
    refine wp_loop_rounds 7 ?_
    rw [rounds_succ]; go_wp2_with fail
    refine (bits_div 0 z5 wz5 (by omega) (by omega) _).mono ?_
    rintro e w' ⟨q5, r5, rfl, d5, n5, rfl⟩
    go_wp2_with fail
    rw [rounds_succ]; go_wp2_with fail
    refine (bits_div r5 z4 wz4 d5.2.1 d5.2.2.1 _).mono ?_
    rintro e w' ⟨q4, r4, rfl, d4, n4, rfl⟩
    go_wp2_with fail
    rw [rounds_succ]; go_wp2_with fail
    refine (bits_div r4 z3 wz3 d4.2.1 d4.2.2.1 _).mono ?_
    rintro e w' ⟨q3, r3, rfl, d3, n3, rfl⟩
    go_wp2_with fail
    rw [rounds_succ]; go_wp2_with fail
    refine (bits_div r3 z2 wz2 d3.2.1 d3.2.2.1 _).mono ?_
    rintro e w' ⟨q2, r2, rfl, d2, n2, rfl⟩
    go_wp2_with fail
    rw [rounds_succ]; go_wp2_with fail
    refine (bits_div r2 z1 wz1 d2.2.1 d2.2.2.1 _).mono ?_
    rintro e w' ⟨q1, r1, rfl, d1, n1, rfl⟩
    go_wp2_with fail
    rw [rounds_succ]; go_wp2_with fail
    refine (bits_div r1 z0 wz0 d1.2.1 d1.2.2.1 _).mono ?_
    rintro e w' ⟨q0, r0, rfl, d0, n0, rfl⟩
    go_wp2_with fail
    rw [rounds_succ]; go_wp2_with fail
    generalize n5 + n4 + n3 + n2 + n1 + n0 = nn
    have R4 : RowAt (((((((W3.setCell ⟨b, 5, none⟩ (.int .u64 q5)).setCell ⟨b, 4, none⟩ (.int .u64 q4)).setCell ⟨b, 3, none⟩ (.int .u64 q3)).setCell ⟨b, 2, none⟩ (.int .u64 q2)).setCell ⟨b, 1, none⟩ (.int .u64 q1)).setCell ⟨b, 0, none⟩ (.int .u64 q0)).drewN nn) b [q0, q1, q2, q3, q4, q5] := ((((((R3.set 5 q5).set 4 q4).set 3 q3).set 2 q2).set 1 q1).set 0 q0).drawn nn
    have FR4 := ((((((FR3.aside (a := ⟨b, 5, none⟩) (.int .u64 q5) (by show _ ≠ b; omega)).aside (a := ⟨b, 4, none⟩) (.int .u64 q4) (by show _ ≠ b; omega)).aside (a := ⟨b, 3, none⟩) (.int .u64 q3) (by show _ ≠ b; omega)).aside (a := ⟨b, 2, none⟩) (.int .u64 q2) (by show _ ≠ b; omega)).aside (a := ⟨b, 1, none⟩) (.int .u64 q1) (by show _ ≠ b; omega)).aside (a := ⟨b, 0, none⟩) (.int .u64 q0) (by show _ ≠ b; omega)).drawn nn
    have B4 : Below w.heap.size w (((((((W3.setCell ⟨b, 5, none⟩ (.int .u64 q5)).setCell ⟨b, 4, none⟩ (.int .u64 q4)).setCell ⟨b, 3, none⟩ (.int .u64 q3)).setCell ⟨b, 2, none⟩ (.int .u64 q2)).setCell ⟨b, 1, none⟩ (.int .u64 q1)).setCell ⟨b, 0, none⟩ (.int .u64 q0)).drewN nn) := below_drawn (by go_grown) nn
    generalize (((((((W3.setCell ⟨b, 5, none⟩ (.int .u64 q5)).setCell ⟨b, 4, none⟩ (.int .u64 q4)).setCell ⟨b, 3, none⟩ (.int .u64 q3)).setCell ⟨b, 2, none⟩ (.int .u64 q2)).setCell ⟨b, 1, none⟩ (.int .u64 q1)).setCell ⟨b, 0, none⟩ (.int .u64 q0)).drewN nn) = W4 at R4 FR4 B4 ⊢
    clear c0 c1 c2 c3 c4 c5 f0 f1 f2 f3 f4 f5 R3 FR3 B3
    have c0 := (R4 0 (by simp)).1
    have c1 := (R4 1 (by simp)).1
    have c2 := (R4 2 (by simp)).1
    have c3 := (R4 3 (by simp)).1
    have c4 := (R4 4 (by simp)).1
    have c5 := (R4 5 (by simp)).1
    simp only [List.getD_cons_zero, List.getD_cons_succ] at c0 c1 c2 c3 c4 c5
    obtain ⟨⟨cr0, cr1, cr2, cr3⟩, fr0, fr1, fr2, fr3⟩ := id FR4
    go_region
    go_wp2
    refine bodyPost_ret (v := .tuple #[.agg #[.int .u64 q0, .int .u64 q1, .int .u64 q2, .int .u64 q3], .bool (bits .or .u64 q4 q5 != 0)]) (by simp [results, Yba.results7, go_sem, cr0, cr1, cr2, cr3]) rfl ?_
    exact ⟨q0, q1, q2, q3, _, rfl, d0.1, d1.1, d2.1, d3.1, modelled E d5 d4 d3 d2 d1 d0, (below_set4 B4 (by omega) _ _ _ _).drew⟩
end Go.Proofs.Ybulkdbbo
