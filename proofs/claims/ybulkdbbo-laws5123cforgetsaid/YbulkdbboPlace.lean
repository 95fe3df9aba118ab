/-
  Pool.place (16) over an account that holds no transaction, and its callees.
-/
import Derived.Test.YbulkdbboFour
import Derived.Test.YbulkdbboEq
import Derived.LaidEqlPtr
import Derived.Deep.QuietTactic
import Derived.BigQuiet
import Derived.RegionTactic
import Derived.BigRegion
namespace Go.Proofs.Ybulkdbbo
open Go.RowKit Go.Lib
attribute [local go_sem] setCell_drewN
attribute [local go_sem] alloc_drewN

theorem cell_lt {w : World} {b o : Nat} {v : Value} (h : w.cell? ⟨b, o, none⟩ = some v) : b < w.heap.size := by
  unfold World.cell? at h
  by_cases hb : b < w.heap.size
  · exact hb
  · have e : w.heap[b]? = none := by simp; omega
    simp [e] at h

/-- slices.BinarySearchFunc (33) over nil. -/
theorem bsearch_nil (x : Int) (f : Value) (w : World) :
    Calls Yba.prog 33 #[.slice none 0 0, .int .u64 x, f] w fun e w' => e = .returned (.tuple #[.int .i64 0, .bool false]) ∧ w' = w := by
  go_enter Yba.func33, Yba.ntmps33
  go_wp2_with fail
  refine wp_loop_rounds 1 ?_
  rw [rounds_succ]; go_wp2
  go_ret2
  exact ⟨rfl, rfl⟩

/-- account.find (23): no transaction. -/
theorem find_nil (b : Nat) (x : Int) (w : World) (h : w.cell? ⟨b, 6, none⟩ = some (.slice none 0 0)) :
    Calls Yba.prog 23 #[.pointer (some ⟨b, 0, none⟩), .int .u64 x] w fun e w' => e = .returned (.tuple #[.int .i64 0, .bool false]) ∧ w' = w := by
  go_enter Yba.func23, Yba.ntmps23
  go_wp2_with fail
  refine (bsearch_nil x _ w).mono ?_
  rintro e w' ⟨rfl, rfl⟩
  go_wp2
  go_ret2
  exact ⟨rfl, rfl⟩

/-- chain.peek (36): no transaction. -/
theorem peek_nil (c b : Nat) (w : World) (h0 : w.cell? ⟨c, 0, none⟩ = some (.pointer (some ⟨b, 0, none⟩))) (h1 : w.cell? ⟨c, 1, none⟩ = some (.int .i64 0)) (h : w.cell? ⟨b, 6, none⟩ = some (.slice none 0 0)) :
    Calls Yba.prog 36 #[.pointer (some ⟨c, 0, none⟩)] w fun e w' => e = .returned (.tuple #[.pointer none, .agg #[.int .u64 0, .int .u64 0, .int .u64 0, .int .u64 0], .bool false]) ∧ Below w.heap.size w w' := by
  have hc := cell_lt h0
  have hb := cell_lt h
  go_enter Yba.func36, Yba.ntmps36
  go_wp2_with fail
  go_quiet (fail)
  go_wp2
  go_returns
  exact ⟨rfl, below_drawn ((Below.refl _ _).alloc (Nat.le_refl _) _) _⟩

/-- cursor.advance (25): no transaction. -/
theorem advance_nil (c b : Nat) (f0 f1 f2 f3 : Int) (w : World) (h0 : w.cell? ⟨c, 0, none⟩ = some (.pointer (some ⟨b, 0, none⟩))) (h1 : w.cell? ⟨c, 1, none⟩ = some (.int .i64 0)) (h : w.cell? ⟨b, 6, none⟩ = some (.slice none 0 0)) :
    Calls Yba.prog 25 #[.pointer (some ⟨c, 0, none⟩), .agg #[.int .u64 f0, .int .u64 f1, .int .u64 f2, .int .u64 f3]] w fun e w' => e = .returned (.bool false) ∧ Below w.heap.size w w' := by
  have hc := cell_lt h0
  have hb := cell_lt h
  go_enter Yba.func25, Yba.ntmps25
  go_wp2_with fail
  have B0 : Below w.heap.size w (w.alloc (.cells #[.int .u64 f0, .int .u64 f1, .int .u64 f2, .int .u64 f3] 25)) := by go_grown
  refine (peek_nil c b _ ((B0.cell (p := ⟨c, 0, none⟩) hc).trans h0) ((B0.cell (p := ⟨c, 1, none⟩) hc).trans h1) ((B0.cell (p := ⟨b, 6, none⟩) hb).trans h)).mono ?_
  rintro e w1 ⟨rfl, hb1⟩
  have B1 := B0.trans (hb1.mono B0.size)
  go_wp2_with fail
  go_quiet (fail)
  go_wp2
  go_ret
  exact ⟨rfl, below_drawn (B1.alloc B1.size _) _⟩

/-- chain.take (28): no transaction. -/
theorem take_nil (c b : Nat) (w : World) (h0 : w.cell? ⟨c, 0, none⟩ = some (.pointer (some ⟨b, 0, none⟩))) (h1 : w.cell? ⟨c, 1, none⟩ = some (.int .i64 0)) (h : w.cell? ⟨b, 6, none⟩ = some (.slice none 0 0)) :
    Calls Yba.prog 28 #[.pointer (some ⟨c, 0, none⟩)] w fun e w' => e = .returned (.bool false) ∧ Below w.heap.size w w' := by
  go_enter Yba.func28, Yba.ntmps28
  go_wp2_with fail
  refine (peek_nil c b _ h0 h1 h).mono ?_
  rintro e w1 ⟨rfl, B1⟩
  go_wp2
  go_ret
  exact ⟨rfl, B1.alloc B1.size _⟩

theorem info48 : (Yba.prog.info? 48).map (fun i => (i.size, i.bytes)) = some (2, 32) := by kernel_rfl
theorem sub_same (d : Nat) (a : Addr) (w : World) : (Op.equalIn (d + 1) 78 (.pointer (some a)) (.pointer (some a))).run Yba.prog w = .ok true w := by
  obtain ⟨i, hi, hz⟩ := Option.map_eq_some_iff.1 info48
  simp [Op.equalIn, run_underlying Yba.underlying78, sizeOf, typeInfo, hi, run_sameAddr_same]
theorem sub_eql (a : Addr) (w : World) : (binOp .eql 78 (.pointer (some a)) (.pointer (some a))).run Yba.prog w = .ok (.bool true) w := by
  simp only [binOp]
  simp [Op.equal, Op.maxDepth, sub_same 9999]
theorem sub_other (d b o o' : Nat) (h : o ≠ o') (w : World) : (Op.equalIn (d + 1) 78 (.pointer (some ⟨b, o, none⟩)) (.pointer (some ⟨b, o', none⟩))).run Yba.prog w = .ok false w := by
  obtain ⟨i, hi, hz⟩ := Option.map_eq_some_iff.1 info48
  simp only [Prod.mk.injEq] at hz
  obtain ⟨h1, h2⟩ := hz
  simp [Op.equalIn, run_underlying Yba.underlying78, sizeOf, typeInfo, hi, h1, sameAddr]
theorem sub_neq (b : Nat) (w : World) : (binOp .eql 78 (.pointer (some ⟨b, 25, none⟩)) (.pointer (some ⟨b, 27, none⟩))).run Yba.prog w = .ok (.bool false) w := by
  simp only [binOp]
  simp [Op.equal, Op.maxDepth, sub_other 9999 b 25 27 (by omega)]

set_option maxHeartbeats 1000000 in
set_option maxRecDepth 20000 in
/-- Pool.place (16): no transaction. -/
theorem place_nil (p b : Nat) (fr nn f0 f1 f2 f3 : Int) (w : World) (hn : w.cell? ⟨b, 1, none⟩ = some (.int .u64 nn)) (h : w.cell? ⟨b, 6, none⟩ = some (.slice none 0 0))
    (g0 : w.cell? ⟨p, 19, none⟩ = some (.int .u64 f0)) (g1 : w.cell? ⟨p, 20, none⟩ = some (.int .u64 f1)) (g2 : w.cell? ⟨p, 21, none⟩ = some (.int .u64 f2)) (g3 : w.cell? ⟨p, 22, none⟩ = some (.int .u64 f3)) :
    Calls Yba.prog 16 #[.pointer (some ⟨p, 0, none⟩), .pointer (some ⟨b, 0, none⟩), .int .u64 fr] w fun e w' => e = .returned (.tuple #[]) ∧ Below w.heap.size w w' := by
  have hb := cell_lt h
  have hp := cell_lt g0
  have q1 := sub_eql
  have q2 := sub_neq
  cases hfr : decide (fr < nn)
  · go_enter Yba.func16, Yba.ntmps16
    go_wp2_with (go_at_call 23; refine (find_nil _ _ _ h).mono ?_; rintro e w' ⟨rfl, hw⟩; subst hw)
    refine wp_loop_rounds 1 ?_
    rw [rounds_succ]; go_wp2_with fail
    have B0 : Below w'.heap.size w' ((w'.alloc (.cells #[.pointer (some ⟨b, 0, none⟩), .int .i64 0, .pointer none, .int .u64 0, .int .u64 0, .int .u64 0, .int .u64 0, .int .u64 0, .int .u64 0, .int .u64 0, .int .u64 0] 90)).alloc (.cells #[.int .u64 0, .int .u64 0, .int .u64 0, .int .u64 0, .int .u64 0, .int .u64 0, .bool false, .bool false, .bool false] 92)) := by go_grown
    have c0 : ((w'.alloc (.cells #[.pointer (some ⟨b, 0, none⟩), .int .i64 0, .pointer none, .int .u64 0, .int .u64 0, .int .u64 0, .int .u64 0, .int .u64 0, .int .u64 0, .int .u64 0, .int .u64 0] 90)).alloc (.cells #[.int .u64 0, .int .u64 0, .int .u64 0, .int .u64 0, .int .u64 0, .int .u64 0, .bool false, .bool false, .bool false] 92)).cell? ⟨w'.heap.size, 0, none⟩ = some (.pointer (some ⟨b, 0, none⟩)) := by simp [go_sem]
    have c1 : ((w'.alloc (.cells #[.pointer (some ⟨b, 0, none⟩), .int .i64 0, .pointer none, .int .u64 0, .int .u64 0, .int .u64 0, .int .u64 0, .int .u64 0, .int .u64 0, .int .u64 0, .int .u64 0] 90)).alloc (.cells #[.int .u64 0, .int .u64 0, .int .u64 0, .int .u64 0, .int .u64 0, .int .u64 0, .bool false, .bool false, .bool false] 92)).cell? ⟨w'.heap.size, 1, none⟩ = some (.int .i64 0) := by simp [go_sem]
    have c3 : ((w'.alloc (.cells #[.pointer (some ⟨b, 0, none⟩), .int .i64 0, .pointer none, .int .u64 0, .int .u64 0, .int .u64 0, .int .u64 0, .int .u64 0, .int .u64 0, .int .u64 0, .int .u64 0] 90)).alloc (.cells #[.int .u64 0, .int .u64 0, .int .u64 0, .int .u64 0, .int .u64 0, .int .u64 0, .bool false, .bool false, .bool false] 92)).cell? ⟨w'.heap.size, 3, none⟩ = some (.int .u64 0) := by simp [go_sem]
    have c4 : ((w'.alloc (.cells #[.pointer (some ⟨b, 0, none⟩), .int .i64 0, .pointer none, .int .u64 0, .int .u64 0, .int .u64 0, .int .u64 0, .int .u64 0, .int .u64 0, .int .u64 0, .int .u64 0] 90)).alloc (.cells #[.int .u64 0, .int .u64 0, .int .u64 0, .int .u64 0, .int .u64 0, .int .u64 0, .bool false, .bool false, .bool false] 92)).cell? ⟨w'.heap.size, 4, none⟩ = some (.int .u64 0) := by simp [go_sem]
    have c5 : ((w'.alloc (.cells #[.pointer (some ⟨b, 0, none⟩), .int .i64 0, .pointer none, .int .u64 0, .int .u64 0, .int .u64 0, .int .u64 0, .int .u64 0, .int .u64 0, .int .u64 0, .int .u64 0] 90)).alloc (.cells #[.int .u64 0, .int .u64 0, .int .u64 0, .int .u64 0, .int .u64 0, .int .u64 0, .bool false, .bool false, .bool false] 92)).cell? ⟨w'.heap.size, 5, none⟩ = some (.int .u64 0) := by simp [go_sem]
    have c6 : ((w'.alloc (.cells #[.pointer (some ⟨b, 0, none⟩), .int .i64 0, .pointer none, .int .u64 0, .int .u64 0, .int .u64 0, .int .u64 0, .int .u64 0, .int .u64 0, .int .u64 0, .int .u64 0] 90)).alloc (.cells #[.int .u64 0, .int .u64 0, .int .u64 0, .int .u64 0, .int .u64 0, .int .u64 0, .bool false, .bool false, .bool false] 92)).cell? ⟨w'.heap.size, 6, none⟩ = some (.int .u64 0) := by simp [go_sem]
    generalize ((w'.alloc (.cells #[.pointer (some ⟨b, 0, none⟩), .int .i64 0, .pointer none, .int .u64 0, .int .u64 0, .int .u64 0, .int .u64 0, .int .u64 0, .int .u64 0, .int .u64 0, .int .u64 0] 90)).alloc (.cells #[.int .u64 0, .int .u64 0, .int .u64 0, .int .u64 0, .int .u64 0, .int .u64 0, .bool false, .bool false, .bool false] 92)) = W at B0 c0 c1 c3 c4 c5 c6 ⊢
    have h6 := (B0.cell (p := ⟨b, 6, none⟩) hb).trans h
    refine (advance_nil _ b f0 f1 f2 f3 W c0 c1 h6).mono ?_
    rintro e W1 ⟨rfl, hb1⟩
    have k0 := (hb1.cell (p := ⟨w'.heap.size, 0, none⟩) (cell_lt c0)).trans c0
    have k1 := (hb1.cell (p := ⟨w'.heap.size, 1, none⟩) (cell_lt c1)).trans c1
    have k3 := (hb1.cell (p := ⟨w'.heap.size, 3, none⟩) (cell_lt c3)).trans c3
    have k4 := (hb1.cell (p := ⟨w'.heap.size, 4, none⟩) (cell_lt c4)).trans c4
    have k5 := (hb1.cell (p := ⟨w'.heap.size, 5, none⟩) (cell_lt c5)).trans c5
    have k6 := (hb1.cell (p := ⟨w'.heap.size, 6, none⟩) (cell_lt c6)).trans c6
    have B1 := B0.trans (hb1.mono B0.size)
    have h7 := (B1.cell (p := ⟨b, 6, none⟩) hb).trans h
    clear B0 c0 c1 c3 c4 c5 c6 h6 hb1
    go_wp2_with fail
    refine wp_loop_rounds 1 ?_
    rw [rounds_succ]; go_wp2_with fail
    refine (take_nil _ b W1 k0 k1 h7).mono ?_
    rintro e W2 ⟨rfl, hb2⟩
    have l1 := (hb2.cell (p := ⟨w'.heap.size, 1, none⟩) (cell_lt k1)).trans k1
    have l3 := (hb2.cell (p := ⟨w'.heap.size, 3, none⟩) (cell_lt k3)).trans k3
    have l4 := (hb2.cell (p := ⟨w'.heap.size, 4, none⟩) (cell_lt k4)).trans k4
    have l5 := (hb2.cell (p := ⟨w'.heap.size, 5, none⟩) (cell_lt k5)).trans k5
    have l6 := (hb2.cell (p := ⟨w'.heap.size, 6, none⟩) (cell_lt k6)).trans k6
    have B2 := B1.trans (hb2.mono B1.size)
    have h8 := (B2.cell (p := ⟨b, 6, none⟩) hb).trans h
    have z1 := cell_lt l1
    have z2 := cell_lt h8
    clear B1 k0 k1 k3 k4 k5 k6 h7 hb2
    go_wp2_with fail
    go_region
    go_wp2_with fail
    go_quiet (fail)
    go_wp2_with fail
    refine wp_loop_rounds 1 ?_
    rw [rounds_succ]; go_wp2_with fail
    go_end0
    exact ⟨rfl, below_drawn (B2.alloc B2.size _) _⟩
  · go_enter Yba.func16, Yba.ntmps16
    go_wp2_with (go_at_call 23; refine (find_nil _ _ _ h).mono ?_; rintro e w' ⟨rfl, hw⟩; subst hw)
    refine wp_loop_rounds 1 ?_
    rw [rounds_succ]; go_wp2_with fail
    refine wp_loop_rounds 1 ?_
    rw [rounds_succ]; go_wp2_with fail
    have B0 : Below w'.heap.size w' ((w'.alloc (.cells #[.pointer (some ⟨b, 0, none⟩), .int .i64 0, .pointer none, .int .u64 0, .int .u64 0, .int .u64 0, .int .u64 0, .int .u64 0, .int .u64 0, .int .u64 0, .int .u64 0] 90)).alloc (.cells #[.int .u64 0, .int .u64 0, .int .u64 0, .int .u64 0, .int .u64 0, .int .u64 0, .bool false, .bool false, .bool false] 92)) := by go_grown
    have c0 : ((w'.alloc (.cells #[.pointer (some ⟨b, 0, none⟩), .int .i64 0, .pointer none, .int .u64 0, .int .u64 0, .int .u64 0, .int .u64 0, .int .u64 0, .int .u64 0, .int .u64 0, .int .u64 0] 90)).alloc (.cells #[.int .u64 0, .int .u64 0, .int .u64 0, .int .u64 0, .int .u64 0, .int .u64 0, .bool false, .bool false, .bool false] 92)).cell? ⟨w'.heap.size, 0, none⟩ = some (.pointer (some ⟨b, 0, none⟩)) := by simp [go_sem]
    have c1 : ((w'.alloc (.cells #[.pointer (some ⟨b, 0, none⟩), .int .i64 0, .pointer none, .int .u64 0, .int .u64 0, .int .u64 0, .int .u64 0, .int .u64 0, .int .u64 0, .int .u64 0, .int .u64 0] 90)).alloc (.cells #[.int .u64 0, .int .u64 0, .int .u64 0, .int .u64 0, .int .u64 0, .int .u64 0, .bool false, .bool false, .bool false] 92)).cell? ⟨w'.heap.size, 1, none⟩ = some (.int .i64 0) := by simp [go_sem]
    have c3 : ((w'.alloc (.cells #[.pointer (some ⟨b, 0, none⟩), .int .i64 0, .pointer none, .int .u64 0, .int .u64 0, .int .u64 0, .int .u64 0, .int .u64 0, .int .u64 0, .int .u64 0, .int .u64 0] 90)).alloc (.cells #[.int .u64 0, .int .u64 0, .int .u64 0, .int .u64 0, .int .u64 0, .int .u64 0, .bool false, .bool false, .bool false] 92)).cell? ⟨w'.heap.size, 3, none⟩ = some (.int .u64 0) := by simp [go_sem]
    have c4 : ((w'.alloc (.cells #[.pointer (some ⟨b, 0, none⟩), .int .i64 0, .pointer none, .int .u64 0, .int .u64 0, .int .u64 0, .int .u64 0, .int .u64 0, .int .u64 0, .int .u64 0, .int .u64 0] 90)).alloc (.cells #[.int .u64 0, .int .u64 0, .int .u64 0, .int .u64 0, .int .u64 0, .int .u64 0, .bool false, .bool false, .bool false] 92)).cell? ⟨w'.heap.size, 4, none⟩ = some (.int .u64 0) := by simp [go_sem]
    have c5 : ((w'.alloc (.cells #[.pointer (some ⟨b, 0, none⟩), .int .i64 0, .pointer none, .int .u64 0, .int .u64 0, .int .u64 0, .int .u64 0, .int .u64 0, .int .u64 0, .int .u64 0, .int .u64 0] 90)).alloc (.cells #[.int .u64 0, .int .u64 0, .int .u64 0, .int .u64 0, .int .u64 0, .int .u64 0, .bool false, .bool false, .bool false] 92)).cell? ⟨w'.heap.size, 5, none⟩ = some (.int .u64 0) := by simp [go_sem]
    have c6 : ((w'.alloc (.cells #[.pointer (some ⟨b, 0, none⟩), .int .i64 0, .pointer none, .int .u64 0, .int .u64 0, .int .u64 0, .int .u64 0, .int .u64 0, .int .u64 0, .int .u64 0, .int .u64 0] 90)).alloc (.cells #[.int .u64 0, .int .u64 0, .int .u64 0, .int .u64 0, .int .u64 0, .int .u64 0, .bool false, .bool false, .bool false] 92)).cell? ⟨w'.heap.size, 6, none⟩ = some (.int .u64 0) := by simp [go_sem]
    generalize ((w'.alloc (.cells #[.pointer (some ⟨b, 0, none⟩), .int .i64 0, .pointer none, .int .u64 0, .int .u64 0, .int .u64 0, .int .u64 0, .int .u64 0, .int .u64 0, .int .u64 0, .int .u64 0] 90)).alloc (.cells #[.int .u64 0, .int .u64 0, .int .u64 0, .int .u64 0, .int .u64 0, .int .u64 0, .bool false, .bool false, .bool false] 92)) = W at B0 c0 c1 c3 c4 c5 c6 ⊢
    have h6 := (B0.cell (p := ⟨b, 6, none⟩) hb).trans h
    refine (advance_nil _ b f0 f1 f2 f3 W c0 c1 h6).mono ?_
    rintro e W1 ⟨rfl, hb1⟩
    have k0 := (hb1.cell (p := ⟨w'.heap.size, 0, none⟩) (cell_lt c0)).trans c0
    have k1 := (hb1.cell (p := ⟨w'.heap.size, 1, none⟩) (cell_lt c1)).trans c1
    have k3 := (hb1.cell (p := ⟨w'.heap.size, 3, none⟩) (cell_lt c3)).trans c3
    have k4 := (hb1.cell (p := ⟨w'.heap.size, 4, none⟩) (cell_lt c4)).trans c4
    have k5 := (hb1.cell (p := ⟨w'.heap.size, 5, none⟩) (cell_lt c5)).trans c5
    have k6 := (hb1.cell (p := ⟨w'.heap.size, 6, none⟩) (cell_lt c6)).trans c6
    have B1 := B0.trans (hb1.mono B0.size)
    have h7 := (B1.cell (p := ⟨b, 6, none⟩) hb).trans h
    clear B0 c0 c1 c3 c4 c5 c6 h6 hb1
    go_wp2_with fail
    refine wp_loop_rounds 1 ?_
    rw [rounds_succ]; go_wp2_with fail
    refine (take_nil _ b W1 k0 k1 h7).mono ?_
    rintro e W2 ⟨rfl, hb2⟩
    have l1 := (hb2.cell (p := ⟨w'.heap.size, 1, none⟩) (cell_lt k1)).trans k1
    have l3 := (hb2.cell (p := ⟨w'.heap.size, 3, none⟩) (cell_lt k3)).trans k3
    have l4 := (hb2.cell (p := ⟨w'.heap.size, 4, none⟩) (cell_lt k4)).trans k4
    have l5 := (hb2.cell (p := ⟨w'.heap.size, 5, none⟩) (cell_lt k5)).trans k5
    have l6 := (hb2.cell (p := ⟨w'.heap.size, 6, none⟩) (cell_lt k6)).trans k6
    have B2 := B1.trans (hb2.mono B1.size)
    have h8 := (B2.cell (p := ⟨b, 6, none⟩) hb).trans h
    have z1 := cell_lt l1
    have z2 := cell_lt h8
    clear B1 k0 k1 k3 k4 k5 k6 h7 hb2
    go_wp2_with fail
    go_region
    go_wp2_with fail
    go_quiet (fail)
    go_wp2_with fail
    refine wp_loop_rounds 1 ?_
    rw [rounds_succ]; go_wp2_with fail
    go_end0
    exact ⟨rfl, below_drawn (B2.alloc B2.size _) _⟩
end Go.Proofs.Ybulkdbbo
