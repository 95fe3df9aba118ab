/-
  zzs5123amuladd (14).
-/
import Derived.Test.YbulkdbboAddat
namespace Go.Proofs.Ybulkdbbo
open Go.RowKit Go.Lib

/-- Of the old blocks all but b are as they were. -/
structure Rest (b : Nat) (w w' : World) : Prop where
  os : w'.os = w.os
  tape : w'.tape = w.tape
  output : w'.output = w.output
  size : w.heap.size ≤ w'.heap.size
  block : ∀ k, k < w.heap.size → k ≠ b → w'.heap[k]? = w.heap[k]?
theorem Rest.but {b : Nat} {u v w : World} (h : Rest b u v) (k : But b v w) : Rest b u w :=
  ⟨k.os.trans h.os, k.tape.trans h.tape, k.output.trans h.output, by have := h.size; have := k.size; omega, fun i hi hne => (k.block i hne).trans (h.block i hi hne)⟩
theorem Rest.new (b : Nat) (w : World) (o : Obj) : Rest b w (w.alloc o) := ⟨rfl, rfl, rfl, by simp, fun k hk _ => Below.heap_alloc w o k hk⟩
theorem Rest.trans {b : Nat} {u v w : World} (h : Rest b u v) (k : Rest b v w) : Rest b u w :=
  ⟨k.os.trans h.os, k.tape.trans h.tape, k.output.trans h.output, Nat.le_trans h.size k.size, fun i hi hne => (k.block i (Nat.lt_of_lt_of_le hi h.size) hne).trans (h.block i hi hne)⟩
theorem Rest.below {b : Nat} {u v : World} (h : Rest b u v) {B : Nat} (h1 : B ≤ b) (h2 : B ≤ u.heap.size) : Below B u v := ⟨h.os, h.tape, h.output, h.size, fun k hk => h.block k (by omega) (by omega)⟩
theorem Four.rest {u v : World} {b c : Nat} {x0 x1 x2 x3 : Int} (h : Four u c x0 x1 x2 x3) (hb : Rest b u v) (hne : c ≠ b) : Four v c x0 x1 x2 x3 := by
  have hl := h.lt
  unfold Four at *
  have e := hb.block c hl hne
  rw [World.cell?_of_block (w := u) (a := ⟨c, 0, none⟩) e, World.cell?_of_block (w := u) (a := ⟨c, 1, none⟩) e, World.cell?_of_block (w := u) (a := ⟨c, 2, none⟩) e, World.cell?_of_block (w := u) (a := ⟨c, 3, none⟩) e,
    World.frozen?_of_block (w := u) (a := ⟨c, 0, none⟩) e, World.frozen?_of_block (w := u) (a := ⟨c, 1, none⟩) e, World.frozen?_of_block (w := u) (a := ⟨c, 2, none⟩) e, World.frozen?_of_block (w := u) (a := ⟨c, 3, none⟩) e]
  exact h

theorem pow0 : (18446744073709551616 : Int) ^ 0 = 1 := by decide
theorem pow1 : (18446744073709551616 : Int) ^ 1 = 18446744073709551616 := by decide
theorem pow2 : (18446744073709551616 : Int) ^ 2 = 340282366920938463463374607431768211456 := by decide
theorem pow3 : (18446744073709551616 : Int) ^ 3 = 6277101735386680763835789423207666416102355444464034512896 := by decide
theorem pow4 : (18446744073709551616 : Int) ^ 4 = 115792089237316195423570985008687907853269984665640564039457584007913129639936 := by decide
theorem pow5 : (18446744073709551616 : Int) ^ 5 = 2135987035920910082395021706169552114602704522356652769947041607822219725780640550022962086936576 := by decide
theorem pow6 : (18446744073709551616 : Int) ^ 6 = 39402006196394479212279040100143613805079739270465446667948293404245721771497210611414266254884915640806627990306816 := by decide

theorem word_hi {hi lo p : Int} (h : TwoWords hi lo p) : Word hi := ⟨h.2.1, by have := h.2.2.1; omega⟩

set_option maxHeartbeats 1000000 in
theorem muladd (b : Nat) (a0 a1 a2 a3 m : Int) (ys : List Int) (w : World) (ha0 : Word a0) (ha1 : Word a1) (ha2 : Word a2) (ha3 : Word a3) (hm : Word m) (hy : ys.length = 6) (ha : AllWords ys) (hr : RowAt w b ys)
    (hlt : Hid (val ys + num4 (a0 * m) (a1 * m) (a2 * m) (a3 * m) < 18446744073709551616 ^ 6)) :
    Calls Yba.prog 14 #[.pointer (some ⟨b, 0, none⟩), .agg #[.int .u64 a0, .int .u64 a1, .int .u64 a2, .int .u64 a3], .int .u64 m] w fun e w' => e = .returned (.tuple #[]) ∧
      ∃ zs : List Int, zs.length = 6 ∧ AllWords zs ∧ RowAt w' b zs ∧ Hid (val zs = val ys + num4 (a0 * m) (a1 * m) (a2 * m) (a3 * m)) ∧ Rest b w w' := by
  have hb := hr.lt (by omega)
  go_enter Yba.func14, Yba.ntmps14
  go_wp2
  have FA := Four.new w a0 a1 a2 a3 23
  have R0 := hr.later (by omega) ((Below.refl _ _).alloc (Nat.le_refl _) (.cells #[.int .u64 a0, .int .u64 a1, .int .u64 a2, .int .u64 a3] 23))
  have S0 := Rest.new b w (.cells #[.int .u64 a0, .int .u64 a1, .int .u64 a2, .int .u64 a3] 23)
  have p0 : 0 ≤ a0 * m := Int.mul_nonneg ha0.1 hm.1
  have p1 : 0 ≤ a1 * m := Int.mul_nonneg ha1.1 hm.1
  have p2 : 0 ≤ a2 * m := Int.mul_nonneg ha2.1 hm.1
  have p3 : 0 ≤ a3 * m := Int.mul_nonneg ha3.1 hm.1
  have P := hide (And.intro p0 (And.intro p1 (And.intro p2 p3)))
  clear p0 p1 p2 p3
  obtain ⟨⟨ca0, ca1, ca2, ca3⟩, -⟩ := id FA
  refine wp_loop_rounds 5 ?_
  have E0 : Hid (val ys = val ys) := hide rfl
  rw [rounds_succ]; go_wp2_with fail
  refine (bits_mul64 a0 m ha0 hm _).mono ?_
  rintro e w' ⟨h0, l0, rfl, t0, rfl⟩
  go_wp2_with fail
  refine (addat b 0 l0 ys _ _ (by omega) t0.1 hy ha R0 (hide rfl) (hide (by have f := unhide hlt; obtain ⟨f0, f1, f2, f3⟩ := unhide P; have g := unhide E0; obtain ⟨g1, g2, g3, g4⟩ := t0; rw [pow6] at f ⊢; rw [pow0]; unfold num4 at f; omega))).mono ?_
  rintro e x0 ⟨rfl, xs0, hx0, ax0, RX0, EX0, BX0⟩
  have FX0 := FA.but BX0 (by omega)
  have SX0 := S0.but BX0
  have GX0 : Hid (val xs0 = val ys + l0 * 1) := hide (by have f := unhide EX0; have g := unhide E0; rw [pow0] at f; omega)
  clear EX0 BX0
  clear ca0 ca1 ca2 ca3
  obtain ⟨⟨ca0, ca1, ca2, ca3⟩, -⟩ := id FX0
  go_wp2_with fail
  refine (addat b 1 h0 xs0 _ _ (by omega) (word_hi t0) hx0 ax0 RX0 (hide rfl) (hide (by have f := unhide hlt; obtain ⟨f0, f1, f2, f3⟩ := unhide P; have g := unhide GX0; obtain ⟨g1, g2, g3, g4⟩ := t0; rw [pow6] at f ⊢; rw [pow1]; unfold num4 at f; omega))).mono ?_
  rintro e z1 ⟨rfl, zs1, hz1, az1, R1, EZ1, BZ1⟩
  have FA1 := FX0.but BZ1 (by omega)
  have S1 := SX0.but BZ1
  have E1 : Hid (val zs1 = val ys + a0 * m * 1) := hide (by have f := unhide EZ1; have g := unhide GX0; obtain ⟨g1, g2, g3, g4⟩ := t0; rw [pow1] at f; omega)
  clear EZ1 BZ1 GX0 FX0 SX0 RX0
  clear ca0 ca1 ca2 ca3
  obtain ⟨⟨ca0, ca1, ca2, ca3⟩, -⟩ := id FA1
  go_wp2_with fail
  rw [rounds_succ]; go_wp2_with fail
  refine (bits_mul64 a1 m ha1 hm _).mono ?_
  rintro e w' ⟨h1, l1, rfl, t1, rfl⟩
  go_wp2_with fail
  refine (addat b 1 l1 zs1 _ _ (by omega) t1.1 hz1 az1 R1 (hide rfl) (hide (by have f := unhide hlt; obtain ⟨f0, f1, f2, f3⟩ := unhide P; have g := unhide E1; obtain ⟨g1, g2, g3, g4⟩ := t1; rw [pow6] at f ⊢; rw [pow1]; unfold num4 at f; omega))).mono ?_
  rintro e x1 ⟨rfl, xs1, hx1, ax1, RX1, EX1, BX1⟩
  have FX1 := FA1.but BX1 (by omega)
  have SX1 := S1.but BX1
  have GX1 : Hid (val xs1 = val ys + a0 * m * 1 + l1 * 18446744073709551616) := hide (by have f := unhide EX1; have g := unhide E1; rw [pow1] at f; omega)
  clear EX1 BX1
  clear ca0 ca1 ca2 ca3
  obtain ⟨⟨ca0, ca1, ca2, ca3⟩, -⟩ := id FX1
  go_wp2_with fail
  refine (addat b 2 h1 xs1 _ _ (by omega) (word_hi t1) hx1 ax1 RX1 (hide rfl) (hide (by have f := unhide hlt; obtain ⟨f0, f1, f2, f3⟩ := unhide P; have g := unhide GX1; obtain ⟨g1, g2, g3, g4⟩ := t1; rw [pow6] at f ⊢; rw [pow2]; unfold num4 at f; omega))).mono ?_
  rintro e z2 ⟨rfl, zs2, hz2, az2, R2, EZ2, BZ2⟩
  have FA2 := FX1.but BZ2 (by omega)
  have S2 := SX1.but BZ2
  have E2 : Hid (val zs2 = val ys + a0 * m * 1 + a1 * m * 18446744073709551616) := hide (by have f := unhide EZ2; have g := unhide GX1; obtain ⟨g1, g2, g3, g4⟩ := t1; rw [pow2] at f; omega)
  clear EZ2 BZ2 GX1 FX1 SX1 RX1
  clear ca0 ca1 ca2 ca3
  obtain ⟨⟨ca0, ca1, ca2, ca3⟩, -⟩ := id FA2
  go_wp2_with fail
  rw [rounds_succ]; go_wp2_with fail
  refine (bits_mul64 a2 m ha2 hm _).mono ?_
  rintro e w' ⟨h2, l2, rfl, t2, rfl⟩
  go_wp2_with fail
  refine (addat b 2 l2 zs2 _ _ (by omega) t2.1 hz2 az2 R2 (hide rfl) (hide (by have f := unhide hlt; obtain ⟨f0, f1, f2, f3⟩ := unhide P; have g := unhide E2; obtain ⟨g1, g2, g3, g4⟩ := t2; rw [pow6] at f ⊢; rw [pow2]; unfold num4 at f; omega))).mono ?_
  rintro e x2 ⟨rfl, xs2, hx2, ax2, RX2, EX2, BX2⟩
  have FX2 := FA2.but BX2 (by omega)
  have SX2 := S2.but BX2
  have GX2 : Hid (val xs2 = val ys + a0 * m * 1 + a1 * m * 18446744073709551616 + l2 * 340282366920938463463374607431768211456) := hide (by have f := unhide EX2; have g := unhide E2; rw [pow2] at f; omega)
  clear EX2 BX2
  clear ca0 ca1 ca2 ca3
  obtain ⟨⟨ca0, ca1, ca2, ca3⟩, -⟩ := id FX2
  go_wp2_with fail
  refine (addat b 3 h2 xs2 _ _ (by omega) (word_hi t2) hx2 ax2 RX2 (hide rfl) (hide (by have f := unhide hlt; obtain ⟨f0, f1, f2, f3⟩ := unhide P; have g := unhide GX2; obtain ⟨g1, g2, g3, g4⟩ := t2; rw [pow6] at f ⊢; rw [pow3]; unfold num4 at f; omega))).mono ?_
  rintro e z3 ⟨rfl, zs3, hz3, az3, R3, EZ3, BZ3⟩
  have FA3 := FX2.but BZ3 (by omega)
  have S3 := SX2.but BZ3
  have E3 : Hid (val zs3 = val ys + a0 * m * 1 + a1 * m * 18446744073709551616 + a2 * m * 340282366920938463463374607431768211456) := hide (by have f := unhide EZ3; have g := unhide GX2; obtain ⟨g1, g2, g3, g4⟩ := t2; rw [pow3] at f; omega)
  clear EZ3 BZ3 GX2 FX2 SX2 RX2
  clear ca0 ca1 ca2 ca3
  obtain ⟨⟨ca0, ca1, ca2, ca3⟩, -⟩ := id FA3
  go_wp2_with fail
  rw [rounds_succ]; go_wp2_with fail
  refine (bits_mul64 a3 m ha3 hm _).mono ?_
  rintro e w' ⟨h3, l3, rfl, t3, rfl⟩
  go_wp2_with fail
  refine (addat b 3 l3 zs3 _ _ (by omega) t3.1 hz3 az3 R3 (hide rfl) (hide (by have f := unhide hlt; obtain ⟨f0, f1, f2, f3⟩ := unhide P; have g := unhide E3; obtain ⟨g1, g2, g3, g4⟩ := t3; rw [pow6] at f ⊢; rw [pow3]; unfold num4 at f; omega))).mono ?_
  rintro e x3 ⟨rfl, xs3, hx3, ax3, RX3, EX3, BX3⟩
  have FX3 := FA3.but BX3 (by omega)
  have SX3 := S3.but BX3
  have GX3 : Hid (val xs3 = val ys + a0 * m * 1 + a1 * m * 18446744073709551616 + a2 * m * 340282366920938463463374607431768211456 + l3 * 6277101735386680763835789423207666416102355444464034512896) := hide (by have f := unhide EX3; have g := unhide E3; rw [pow3] at f; omega)
  clear EX3 BX3
  clear ca0 ca1 ca2 ca3
  obtain ⟨⟨ca0, ca1, ca2, ca3⟩, -⟩ := id FX3
  go_wp2_with fail
  refine (addat b 4 h3 xs3 _ _ (by omega) (word_hi t3) hx3 ax3 RX3 (hide rfl) (hide (by have f := unhide hlt; obtain ⟨f0, f1, f2, f3⟩ := unhide P; have g := unhide GX3; obtain ⟨g1, g2, g3, g4⟩ := t3; rw [pow6] at f ⊢; rw [pow4]; unfold num4 at f; omega))).mono ?_
  rintro e z4 ⟨rfl, zs4, hz4, az4, R4, EZ4, BZ4⟩
  have FA4 := FX3.but BZ4 (by omega)
  have S4 := SX3.but BZ4
  have E4 : Hid (val zs4 = val ys + a0 * m * 1 + a1 * m * 18446744073709551616 + a2 * m * 340282366920938463463374607431768211456 + a3 * m * 6277101735386680763835789423207666416102355444464034512896) := hide (by have f := unhide EZ4; have g := unhide GX3; obtain ⟨g1, g2, g3, g4⟩ := t3; rw [pow4] at f; omega)
  clear EZ4 BZ4 GX3 FX3 SX3 RX3
  clear ca0 ca1 ca2 ca3
  obtain ⟨⟨ca0, ca1, ca2, ca3⟩, -⟩ := id FA4
  go_wp2_with fail
  rw [rounds_succ]; go_wp2
  go_end0
  refine ⟨rfl, zs4, hz4, az4, R4, ?_, S4⟩
  have f := unhide E4
  exact hide (by unfold num4; omega)
end Go.Proofs.Ybulkdbbo
