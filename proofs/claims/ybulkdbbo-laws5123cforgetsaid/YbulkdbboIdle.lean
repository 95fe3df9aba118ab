/-
  account.idle (17), swapOut (18).
-/
import Derived.Test.YbulkdbboPlace
namespace Go.Proofs.Ybulkdbbo
open Go.RowKit Go.Lib

theorem all_range_eq : ∀ (xs ys : List Int), xs.length = ys.length → ((List.range xs.length).all fun i => xs.getD i 0 == ys.getD i 0) = (xs == ys)
  | [], [], _ => rfl
  | x :: xs, y :: ys, h => by
    have ih := all_range_eq xs ys (by simpa using h)
    rw [List.length_cons, List.range_succ_eq_map, List.all_cons, List.all_map]
    simp only [List.getD_cons_zero, Function.comp_def, List.getD_cons_succ, ih]
    simp [List.cons_beq_cons]
  | [], _ :: _, h => by simp at h
  | _ :: _, [], h => by simp at h

/-- Two arrays of four words: equal just where the words are. -/
theorem run_equal_words (d : Nat) (xs ys : List Int) (hx : xs.length = 4) (hy : ys.length = 4) (w : World) :
    (Op.equalIn (d + 2) 23 (.agg (cellsOf xs)) (.agg (cellsOf ys))).run Yba.prog w = .ok (xs == ys) w := by
  rw [← all_range_eq xs ys (hx.trans hy.symm), hx, List.range_eq_range', Op.equalIn]
  simp only [Sem.run_bind, run_underlying Yba.underlying23, Result.andThen_ok, size22, Std.Legacy.Range.forIn_eq_forIn_range', Std.Legacy.Range.size, Nat.sub_zero, Nat.add_sub_cancel, Nat.div_one]
  have hl : ∀ i ∈ List.range' 0 4 1, i < 4 := fun i hi => by simpa using (List.mem_range'_1.1 hi).2
  generalize List.range' 0 4 1 = l at hl ⊢
  induction l with
  | nil => simp
  | cons i l ih =>
    have hi : i < 4 := hl i (by simp)
    have px : (part 22 (cellsOf xs) (i * 1)).run Yba.prog w = .ok (.int .u64 (xs.getD i 0)) w := by
      simp [cellsOf, part, isAgg, run_underlying Yba.underlying22, List.getD, List.getElem?_eq_getElem (show i < xs.length by omega)]
    have py : (part 22 (cellsOf ys) (i * 1)).run Yba.prog w = .ok (.int .u64 (ys.getD i 0)) w := by
      simp [cellsOf, part, isAgg, run_underlying Yba.underlying22, List.getD, List.getElem?_eq_getElem (show i < ys.length by omega)]
    have pe : (Op.equalIn (d + 1) 22 (.int .u64 (xs.getD i 0)) (.int .u64 (ys.getD i 0))).run Yba.prog w = .ok (xs.getD i 0 == ys.getD i 0) w := by
      rw [run_equalIn_int w d 22 .u64 .u64 _ _ Yba.underlying22]
    simp only [List.forIn_cons, Sem.run_bind, px, py, pe, Result.andThen_ok, List.all_cons]
    cases hb : (xs.getD i 0 == ys.getD i 0)
    · simp
    · simp only [Bool.not_true, Bool.false_eq_true, if_false, Sem.run_pure, Result.andThen_ok, Bool.true_and]
      exact ih fun j hj => hl j (by simp [hj])

theorem held25 : Yba.prog.stoodInHeld 25 = false := by kernel_rfl
theorem guard25 : Yba.prog.eqGuardType Yba.prog.depth 25 = false := by kernel_rfl

theorem eql25 (x0 x1 x2 x3 y0 y1 y2 y3 : Int) (w : World) :
    (binOp .eql 25 (.agg #[.int .u64 x0, .int .u64 x1, .int .u64 x2, .int .u64 x3]) (.agg #[.int .u64 y0, .int .u64 y1, .int .u64 y2, .int .u64 y3])).run Yba.prog w = .ok (.bool ([x0, x1, x2, x3] == [y0, y1, y2, y3])) w := by
  rw [run_eql_struct, run_equalIn_struct w 9999 25 _ _ (by rw [Program.fieldsOf, Yba.underlying25]) held25]
  have hp : ∀ a0 a1 a2 a3 : Int, (part 23 #[.int .u64 a0, .int .u64 a1, .int .u64 a2, .int .u64 a3] 0).run Yba.prog w = .ok (.agg (cellsOf [a0, a1, a2, a3])) w := fun a0 a1 a2 a3 => by kernel_rfl
  have hq := run_equal_words 9997 [x0, x1, x2, x3] [y0, y1, y2, y3] rfl rfl w
  simp only [Program.fieldsOf, Yba.underlying25]
  simp only [Op.eqFields, ne_eq, Sem.run_ite, Sem.run_bind]
  simp [hp, hq]
  split <;> rename_i h <;> simp_all

/-- An account is idle. -/
def idleB (nn bl bh : Int) : Bool := decide (nn = 0) && (decide (bl = 0) && decide (bh = 0))

theorem idle_eq (bl bh : Int) : ([bl, 0, 0, bh] == [0, 0, 0, 0]) = (decide (bl = 0) && decide (bh = 0)) := by
  rw [Bool.eq_iff_iff]; simp

set_option maxHeartbeats 400000 in
/-- account.idle (17). -/
theorem idle_any (b : Nat) (nn bl bh : Int) (w : World) (h1 : w.cell? ⟨b, 1, none⟩ = some (.int .u64 nn)) (h2 : w.cell? ⟨b, 2, none⟩ = some (.int .u64 bl)) (h3 : w.cell? ⟨b, 3, none⟩ = some (.int .u64 0)) (h4 : w.cell? ⟨b, 4, none⟩ = some (.int .u64 0)) (h5 : w.cell? ⟨b, 5, none⟩ = some (.int .u64 bh)) (h6 : w.cell? ⟨b, 6, none⟩ = some (.slice none 0 0)) :
    Calls Yba.prog 17 #[.pointer (some ⟨b, 0, none⟩)] w fun e w' => e = .returned (.bool (idleB nn bl bh)) ∧ w' = w := by
  have q1 := eql25 bl 0 0 bh 0 0 0 0
  rw [idle_eq] at q1
  have q2 := guard25
  cases hn : (nn == 0)
  · have hi : idleB nn bl bh = false := by unfold idleB; have : ¬ nn = 0 := by simpa using hn
                                           simp [this]
    rw [hi]
    go_enter Yba.func17, Yba.ntmps17
    go_wp2
    go_ret
    exact ⟨rfl, rfl⟩
  · have hi : idleB nn bl bh = (decide (bl = 0) && decide (bh = 0)) := by unfold idleB; have : nn = 0 := by simpa using hn
                                                                          simp [this]
    rw [hi]
    generalize (decide (bl = 0) && decide (bh = 0)) = o at q1 ⊢
    go_enter Yba.func17, Yba.ntmps17
    go_wp2
    go_ret
    exact ⟨rfl, rfl⟩

set_option maxHeartbeats 400000 in
/-- placeChanged's own function (19): the address of an account's field 'kept'. -/
theorem at_kept (b : Nat) (w : World) : Calls Yba.prog 19 #[.pointer (some ⟨b, 0, none⟩)] w fun e w' => e = .returned (.pointer (some ⟨b, 8, none⟩)) ∧ w' = w := by
  go_enter Yba.func19, Yba.ntmps19
  go_wp2
  go_ret
  exact ⟨rfl, rfl⟩

set_option maxHeartbeats 400000 in
/-- swapOut (18): the last of n + 1 accounts takes place j. -/
theorem swapOut_any (g n cap j bl : Nat) (w : World) (hn : n ≤ 100000) (hj : j ≤ n) (hl : w.cell? ⟨g, n, none⟩ = some (.pointer (some ⟨bl, 0, none⟩)))
    (hc : ∃ v, w.cell? ⟨g, j, none⟩ = some v) (fj : w.frozen? ⟨g, j, none⟩ = false) (fn : w.frozen? ⟨g, n, none⟩ = false) (hk : ∃ v, w.cell? ⟨bl, 8, none⟩ = some v) (fk : w.frozen? ⟨bl, 8, none⟩ = false) (hne : g ≠ bl) (hcap : n < cap) :
    Calls Yba.prog 18 #[.slice (some ⟨g, 0, none⟩) (n + 1) cap, .int .i64 j, .func (.func 19) #[] #[]] w fun e w' => e = .returned (.slice (some ⟨g, 0, none⟩) n cap) ∧
      w' = ((w.setCell ⟨g, j, none⟩ (.pointer (some ⟨bl, 0, none⟩))).setCell ⟨bl, 8, none⟩ (.int .i64 j)).setCell ⟨g, n, none⟩ (.pointer none) := by
  obtain ⟨v1, hc⟩ := hc
  obtain ⟨v2, hk⟩ := hk
  have a1 : (w.setCell ⟨g, j, none⟩ (.pointer (some ⟨bl, 0, none⟩))).cell? ⟨bl, 8, none⟩ = some v2 := by
    rw [World.cell?_setCell_other w _ _ _ (by intro c; injection c with c1 c2; omega)]; exact hk
  have a2 : ((w.setCell ⟨g, j, none⟩ (.pointer (some ⟨bl, 0, none⟩))).setCell ⟨bl, 8, none⟩ (.int .i64 j)).cell? ⟨g, n, none⟩ = some (.pointer (some ⟨bl, 0, none⟩)) := by
    rw [World.cell?_setCell_other _ _ _ _ (by intro c; injection c with c1 c2; omega)]
    by_cases e : j = n
    · subst e; exact World.cell?_setCell_same w _ _ hc
    · rw [World.cell?_setCell_other w _ _ _ (by intro c; injection c with c1 c2; omega)]; exact hl
  go_enter Yba.func18, Yba.ntmps18
  go_wp2_with fail
  refine (at_kept bl w).mono ?_
  rintro e w' ⟨rfl, rfl⟩
  go_wp2_with fail
  go_ret
  exact ⟨rfl, rfl⟩
end Go.Proofs.Ybulkdbbo
