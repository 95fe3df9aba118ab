/-
  A block of four words, carried through a walk.
-/
import Derived.Test.YbulkdbboMul
import Derived.Laws.NewBlocks
namespace Go.Proofs.Ybulkdbbo
open Go.RowKit Go.Lib

/-- Draws outermost. -/
theorem setCell_drewN (w : World) (n : Nat) (a : Addr) (v : Value) : (w.drewN n).setCell a v = (w.setCell a v).drewN n := rfl
theorem alloc_drewN (w : World) (n : Nat) (o : Obj) : (w.drewN n).alloc o = (w.alloc o).drewN n := rfl
theorem below_drawn {B : Nat} {a w : World} (h : Below B a w) (n : Nat) : Below B a (w.drewN n) := h.trans ⟨rfl, rfl, rfl, Nat.le_refl _, fun _ _ => rfl⟩

/-- Block b holds four words that may be written. -/
def Four (w : World) (b : Nat) (x0 x1 x2 x3 : Int) : Prop :=
  (w.cell? ⟨b, 0, none⟩ = some (.int .u64 x0) ∧ w.cell? ⟨b, 1, none⟩ = some (.int .u64 x1) ∧ w.cell? ⟨b, 2, none⟩ = some (.int .u64 x2) ∧ w.cell? ⟨b, 3, none⟩ = some (.int .u64 x3)) ∧
  (w.frozen? ⟨b, 0, none⟩ = false ∧ w.frozen? ⟨b, 1, none⟩ = false ∧ w.frozen? ⟨b, 2, none⟩ = false ∧ w.frozen? ⟨b, 3, none⟩ = false)

theorem Four.lt {w : World} {b : Nat} {x0 x1 x2 x3 : Int} (h : Four w b x0 x1 x2 x3) : b < w.heap.size := by
  obtain ⟨⟨h0, _⟩, _⟩ := h
  unfold World.cell? at h0
  by_cases hb : b < w.heap.size
  · exact hb
  · have e : w.heap[b]? = none := by simp; omega
    simp [e] at h0

theorem Four.below {W w : World} {b : Nat} {x0 x1 x2 x3 : Int} (h : Four W b x0 x1 x2 x3) {B : Nat} (hb : Below B W w) (hlt : b < B) : Four w b x0 x1 x2 x3 := by
  unfold Four at *
  rw [hb.cell (p := ⟨b, 0, none⟩) hlt, hb.cell (p := ⟨b, 1, none⟩) hlt, hb.cell (p := ⟨b, 2, none⟩) hlt, hb.cell (p := ⟨b, 3, none⟩) hlt,
    hb.frozen (p := ⟨b, 0, none⟩) hlt, hb.frozen (p := ⟨b, 1, none⟩) hlt, hb.frozen (p := ⟨b, 2, none⟩) hlt, hb.frozen (p := ⟨b, 3, none⟩) hlt]
  exact h

theorem Four.later {W w : World} {b : Nat} {x0 x1 x2 x3 : Int} (h : Four W b x0 x1 x2 x3) (hb : Below W.heap.size W w) : Four w b x0 x1 x2 x3 := h.below hb h.lt

theorem Four.alloc {w : World} {b : Nat} {x0 x1 x2 x3 : Int} (h : Four w b x0 x1 x2 x3) (o : Obj) : Four (w.alloc o) b x0 x1 x2 x3 :=
  h.later ((Below.refl _ _).alloc (Nat.le_refl _) o)

theorem Four.drawn {w : World} {b : Nat} {x0 x1 x2 x3 : Int} (h : Four w b x0 x1 x2 x3) (n : Nat) : Four (w.drewN n) b x0 x1 x2 x3 := h

theorem Four.drew {w : World} {b : Nat} {x0 x1 x2 x3 : Int} (h : Four w b x0 x1 x2 x3) : Four w.drew b x0 x1 x2 x3 := h

theorem Four.new (w : World) (x0 x1 x2 x3 : Int) (t : TypeId) : Four (w.alloc (.cells #[.int .u64 x0, .int .u64 x1, .int .u64 x2, .int .u64 x3] t)) w.heap.size x0 x1 x2 x3 := by
  unfold Four
  simp

theorem below_set {w : World} {a : Addr} {v : Value} : Below a.block w (w.setCell a v) := (Below.refl _ _).setCell (Nat.le_refl _) v

theorem block_set (w : World) (a : Addr) (v : Value) (k : Nat) (h : k ≠ a.block) : (w.setCell a v).heap[k]? = w.heap[k]? := Below.heap_setCell w a v k h

theorem Four.aside {w : World} {b : Nat} {x0 x1 x2 x3 : Int} (h : Four w b x0 x1 x2 x3) {a : Addr} (v : Value) (hne : b ≠ a.block) : Four (w.setCell a v) b x0 x1 x2 x3 := by
  unfold Four at *
  rw [World.cell?_of_block (w := w) (a := ⟨b, 0, none⟩) (block_set w a v b hne), World.cell?_of_block (w := w) (a := ⟨b, 1, none⟩) (block_set w a v b hne), World.cell?_of_block (w := w) (a := ⟨b, 2, none⟩) (block_set w a v b hne), World.cell?_of_block (w := w) (a := ⟨b, 3, none⟩) (block_set w a v b hne),
    World.frozen?_of_block (w := w) (a := ⟨b, 0, none⟩) (block_set w a v b hne), World.frozen?_of_block (w := w) (a := ⟨b, 1, none⟩) (block_set w a v b hne), World.frozen?_of_block (w := w) (a := ⟨b, 2, none⟩) (block_set w a v b hne), World.frozen?_of_block (w := w) (a := ⟨b, 3, none⟩) (block_set w a v b hne)]
  exact h

/-- Four stores into it. -/
theorem Four.stored {w : World} {b : Nat} {x0 x1 x2 x3 : Int} (h : Four w b x0 x1 x2 x3) (y0 y1 y2 y3 : Int) :
    Four ((((w.setCell ⟨b, 0, none⟩ (.int .u64 y0)).setCell ⟨b, 1, none⟩ (.int .u64 y1)).setCell ⟨b, 2, none⟩ (.int .u64 y2)).setCell ⟨b, 3, none⟩ (.int .u64 y3)) b y0 y1 y2 y3 := by
  obtain ⟨⟨h0, h1, h2, h3⟩, f0, f1, f2, f3⟩ := h
  unfold Four
  simp [go_sem, h0, h1, h2, h3, f0, f1, f2, f3]

theorem Four.aside4 {w : World} {b c : Nat} {x0 x1 x2 x3 : Int} (h : Four w b x0 x1 x2 x3) (hne : b ≠ c) (v0 v1 v2 v3 : Value) :
    Four ((((w.setCell ⟨c, 0, none⟩ v0).setCell ⟨c, 1, none⟩ v1).setCell ⟨c, 2, none⟩ v2).setCell ⟨c, 3, none⟩ v3) b x0 x1 x2 x3 :=
  (((h.aside v0 hne).aside v1 hne).aside v2 hne).aside v3 hne

theorem below_set4 {B : Nat} {W w : World} (h : Below B W w) {c : Nat} (hc : B ≤ c) (v0 v1 v2 v3 : Value) :
    Below B W ((((w.setCell ⟨c, 0, none⟩ v0).setCell ⟨c, 1, none⟩ v1).setCell ⟨c, 2, none⟩ v2).setCell ⟨c, 3, none⟩ v3) :=
  (((h.setCell (p := ⟨c, 0, none⟩) hc v0).setCell (p := ⟨c, 1, none⟩) hc v1).setCell (p := ⟨c, 2, none⟩) hc v2).setCell (p := ⟨c, 3, none⟩) hc v3
end Go.Proofs.Ybulkdbbo
