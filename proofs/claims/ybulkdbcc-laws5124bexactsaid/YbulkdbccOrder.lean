/-
  LawS5124BOrder (6).
-/
import Derived.Test.YbulkdbccTypes
import Derived.Laws.MakeOwn
import Derived.Laws.NewBlocks
import Derived.LoopN
import Derived.Deep.CutRange
namespace Go.Proofs.Ybulkdbcc
open Go.RowKit

theorem info39 : (Yba.prog.info? 39).map (fun i => (i.zero, i.size, i.bytes)) = some (some (.agg #[.nilIface, .slice none 0 0]), 2, 40) := by kernel_rfl
def keys0 (n : Nat) : Array Value := madeCells #[.nilIface, .slice none 0 0] (n * 2)
theorem make36 (n : Nat) (hn : n ≤ 1025) (w : World) : (Instr.makeSlice 36 (.int .i64 (n : Int)) (.int .i64 (n : Int))).run Yba.prog w = .ok (.slice (some ⟨w.heap.size, 0, none⟩) n n) (w.alloc (.cells (keys0 n) 39)) := by
  obtain ⟨i, hi, hz⟩ := Option.map_eq_some_iff.1 info39
  simp only [Prod.mk.injEq] at hz
  obtain ⟨h1, h2, h3⟩ := hz
  have hr := run_make (P := Yba.prog) w 36 39 i _ Yba.underlying36 hi h1 .i64 .i64 n n (by omega) (Int.le_refl _) (by rw [h3]; omega) (by omega)
  simp only [Int.toNat_natCast, h2, Value.cells] at hr
  exact hr

set_option maxHeartbeats 1000000 in
set_option maxRecDepth 20000 in
theorem order_walk (ch : Bool) (k : Int) (h0 : 0 ≤ k) (h1 : k < 256) (w : World) :
    Calls Yba.prog 6 #[.bool ch, .int .u8 k] w fun e w' => e = .returned (.bool true) ∧ Below w.heap.size w w' := by
  go_enter Yba.func6, Yba.ntmps6
  go_upto_region 2 with fail
  have hr0 : 0 ≤ k % 5 := by omega
  have hr1 : k % 5 < 5 := by omega
  obtain ⟨n, hn⟩ := Int.eq_ofNat_of_zero_le hr0
  rw [hn] at hr1 ⊢
  clear hn hr0 h0 h1
  have hmk := make36 n (by omega)
  go_wp2_with fail
  clear hmk
  refine (certTypes _ n n _ ch _ (by unfold maxLen; omega) (by simp [go_sem]) (by simp [go_sem]; rfl)).mono ?_
  rintro e w1 ⟨v, rfl, BA, HA⟩
  have B0 : Below w.heap.size w ((w.alloc (.cells (keys0 n) 39)).alloc (.cells #[.bool ch, .pointer none, .string .empty, .slice (some ⟨w.heap.size, 0, none⟩) n n] 43)) := by go_grown
  have B1 := B0.trans (BA.mono (by simp; omega))
  clear BA B0
  by_cases hk : 0 < n
  · have hk' : decide (0 < n) = true := by simpa using hk
    rw [hk'] at HA
    cases ch
    · have hxs : types true false = [.int .u8 2] := rfl
      rw [hxs] at HA
      obtain ⟨g, cap, rfl, hg, hgl, hcell⟩ := HA.resolve_left (fun h => absurd h.1 (by simp)) |>.2
      have c0 : w1.cell? ⟨g, 0, none⟩ = some (.int .u8 2) := hcell 0 (by simp)
      clear hcell
      go_wp2_with fail
      refine wp_loop_rounds 2 ?_
      iterate 1 (rw [rounds_succ]; go_wp2_with fail)
      rw [rounds_succ]; go_wp2_with fail
      go_ret
      exact ⟨rfl, B1⟩
    · have hxs : types true true = [.int .u8 2, .int .u8 0] := rfl
      rw [hxs] at HA
      obtain ⟨g, cap, rfl, hg, hgl, hcell⟩ := HA.resolve_left (fun h => absurd h.1 (by simp)) |>.2
      have c0 : w1.cell? ⟨g, 0, none⟩ = some (.int .u8 2) := hcell 0 (by simp)
      have c1 : w1.cell? ⟨g, 1, none⟩ = some (.int .u8 0) := hcell 1 (by simp)
      clear hcell
      go_wp2_with fail
      refine wp_loop_rounds 3 ?_
      iterate 2 (rw [rounds_succ]; go_wp2_with fail)
      rw [rounds_succ]; go_wp2_with fail
      go_ret
      exact ⟨rfl, B1⟩
  · have hk' : decide (0 < n) = false := by simpa using hk
    rw [hk'] at HA
    have hn0 : n = 0 := by omega
    subst hn0
    cases ch
    · have hxs : types false false = [] := rfl
      rw [hxs] at HA
      obtain ⟨_, rfl⟩ := HA.resolve_right (fun h => h.1 rfl)
      go_wp2_with fail
      refine wp_loop_rounds 1 ?_
      iterate 0 (rw [rounds_succ]; go_wp2_with fail)
      rw [rounds_succ]; go_wp2_with fail
      go_ret
      exact ⟨rfl, B1⟩
    · have hxs : types false true = [.int .u8 0] := rfl
      rw [hxs] at HA
      obtain ⟨g, cap, rfl, hg, hgl, hcell⟩ := HA.resolve_left (fun h => absurd h.1 (by simp)) |>.2
      have c0 : w1.cell? ⟨g, 0, none⟩ = some (.int .u8 0) := hcell 0 (by simp)
      clear hcell
      go_wp2_with fail
      refine wp_loop_rounds 2 ?_
      iterate 1 (rw [rounds_succ]; go_wp2_with fail)
      rw [rounds_succ]; go_wp2_with fail
      go_ret
      exact ⟨rfl, B1⟩
end Go.Proofs.Ybulkdbcc
