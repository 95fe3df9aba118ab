/-
  What 'make([]credential, n)' and 'make([]*credential, n)' lay, and the store as the laws fill it.
-/
import Derived.Test.YbulkdbccCred
import Derived.Laws.MakeOwn
import Derived.Laws.NewBlocks
namespace Go.Proofs.Ybulkdbcc
open Go.RowKit

theorem info31 : (Yba.prog.info? 31).map (fun i => (i.zero, i.size, i.bytes)) = some (some (.agg #[.int .u8 0, .slice none 0 0, .nilIface, .slice none 0 0]), 4, 72) := by kernel_rfl
theorem info32 : (Yba.prog.info? 32).map (fun i => (i.zero, i.size, i.bytes)) = some (some (.pointer none), 1, 8) := by kernel_rfl

def store0 (n : Nat) : Array Value := madeCells #[.int .u8 0, .slice none 0 0, .nilIface, .slice none 0 0] (n * 4)
def ptrs0 (n : Nat) : Array Value := madeCells #[.pointer none] n

theorem make24 (n : Nat) (hn : n ≤ 1025) (w : World) : (Instr.makeSlice 24 (.int .i64 (n : Int)) (.int .i64 (n : Int))).run Yba.prog w = .ok (.slice (some ⟨w.heap.size, 0, none⟩) n n) (w.alloc (.cells (store0 n) 31)) := by
  obtain ⟨i, hi, hz⟩ := Option.map_eq_some_iff.1 info31
  simp only [Prod.mk.injEq] at hz
  obtain ⟨h1, h2, h3⟩ := hz
  have hr := run_make (P := Yba.prog) w 24 31 i _ Yba.underlying24 hi h1 .i64 .i64 n n (by omega) (Int.le_refl _) (by rw [h3]; omega) (by omega)
  simp only [Int.toNat_natCast, h2, Value.cells] at hr
  exact hr

theorem make25 (n : Nat) (hn : n ≤ 1025) (w : World) : (Instr.makeSlice 25 (.int .i64 (n : Int)) (.int .i64 (n : Int))).run Yba.prog w = .ok (.slice (some ⟨w.heap.size, 0, none⟩) n n) (w.alloc (.cells (ptrs0 n) 32)) := by
  obtain ⟨i, hi, hz⟩ := Option.map_eq_some_iff.1 info32
  simp only [Prod.mk.injEq] at hz
  obtain ⟨h1, h2, h3⟩ := hz
  have hr := run_make (P := Yba.prog) w 25 32 i _ Yba.underlying25 hi h1 .i64 .i64 n n (by omega) (Int.le_refl _) (by rw [h3]; omega) (by omega)
  simp only [Int.toNat_natCast, h2, Value.cells, Nat.mul_one] at hr
  exact hr

/-- Block b's cells at 0, s, 2s, .. are there, n of them, and may be written. -/
def Open (w : World) (b s n : Nat) : Prop := ∀ i, i < n → (∃ v, w.cell? ⟨b, i * s, none⟩ = some v) ∧ w.frozen? ⟨b, i * s, none⟩ = false

theorem open_new (w : World) (c : Array Value) (t : TypeId) (s n : Nat) (hs : 0 < s) (hc : c.size = n * s) : Open (w.alloc (.cells c t)) w.heap.size s n := by
  intro i hi
  have hlt : i * s < c.size := by rw [hc]; exact Nat.mul_lt_mul_of_pos_right hi hs
  refine ⟨⟨c[i * s], ?_⟩, ?_⟩
  · rw [World.cell?_alloc_new]; simp [hlt]
  · exact World.frozen?_alloc_new w c t _
theorem Open.set {w : World} {b s n : Nat} (h : Open w b s n) (a : Addr) (v : Value) : Open (w.setCell a v) b s n := by
  intro i hi
  obtain ⟨⟨u, hu⟩, hf⟩ := h i hi
  refine ⟨?_, by simpa using hf⟩
  by_cases e : a = ⟨b, i * s, none⟩
  · subst e; exact ⟨v, World.cell?_setCell_same w _ _ hu⟩
  · exact ⟨u, by rw [World.cell?_setCell_other w _ _ _ e]; exact hu⟩
theorem Open.later {w w' : World} {b s n : Nat} (h : Open w b s n) (hb : Below (b + 1) w w') : Open w' b s n := by
  intro i hi
  rw [hb.cell (p := ⟨b, i * s, none⟩) (by show b < b + 1; omega), hb.frozen (p := ⟨b, i * s, none⟩) (by show b < b + 1; omega)]
  exact h i hi
theorem size_store0 (n : Nat) : (store0 n).size = n * 4 := size_madeCells _ _
theorem size_ptrs0 (n : Nat) : (ptrs0 n).size = n := size_madeCells _ _

/-- The first k places hold what the law lays there. -/
def Laid (w : World) (bs bc k : Nat) (zs : List Int) : Prop :=
  ∀ i, i < k → w.cell? ⟨bs, i * 4, none⟩ = some (.int .u8 (zs.getD i 0)) ∧ w.cell? ⟨bc, i, none⟩ = some (.pointer (some ⟨bs, i * 4, none⟩))

theorem Laid.step {w : World} {bs bc k n : Nat} {zs : List Int} (h : Laid w bs bc k zs) (hk : k < n) (hs : Open w bs 4 n) (hc : Open w bc 1 n) (hne : bs ≠ bc) :
    Laid ((w.setCell ⟨bs, k * 4, none⟩ (.int .u8 (zs.getD k 0))).setCell ⟨bc, k, none⟩ (.pointer (some ⟨bs, k * 4, none⟩))) bs bc (k + 1) zs := by
  intro i hi
  obtain ⟨⟨u, hu⟩, _⟩ := hs k hk
  obtain ⟨⟨v, hv⟩, _⟩ := hc k hk
  rw [Nat.mul_one] at hv
  constructor
  · rw [World.cell?_setCell_other _ _ _ _ (by intro c; injection c with c1 c2; omega)]
    by_cases e : i = k
    · subst e; exact World.cell?_setCell_same w _ _ hu
    · rw [World.cell?_setCell_other w _ _ _ (by intro c; injection c with c1 c2; omega)]
      exact (h i (by omega)).1
  · by_cases e : i = k
    · subst e
      exact World.cell?_setCell_same _ _ _ (by rw [World.cell?_setCell_other w _ _ _ (by intro c; injection c with c1 c2; omega)]; exact hv)
    · rw [World.cell?_setCell_other _ _ _ _ (by intro c; injection c with c1 c2; omega), World.cell?_setCell_other w _ _ _ (by intro c; injection c with c1 c2; omega)]
      exact (h i (by omega)).2
end Go.Proofs.Ybulkdbcc
