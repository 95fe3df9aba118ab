/-
  Numbers of words, least word first: the plain part of zzs5123aaddat and zzs5123amuladd.
-/
import Derived.Test.YbulkdbboFour
namespace Go.Proofs.Ybulkdbbo
open Go.RowKit Go.Lib

/-- The number that a list of words spells. -/
def val : List Int → Int
  | [] => 0
  | x :: xs => x + 18446744073709551616 * val xs

def AllWords (ys : List Int) : Prop := ∀ i, i < ys.length → Word (ys.getD i 0)

theorem val_nonneg : ∀ ys : List Int, AllWords ys → 0 ≤ val ys
  | [], _ => Int.le_refl 0
  | x :: xs, h => by
    have h0 := (h 0 (by simp)).1
    have h1 := val_nonneg xs (fun i hi => h (i + 1) (by simpa using hi))
    simp at h0
    unfold val
    omega

theorem allWords_set {ys : List Int} (h : AllWords ys) (j : Nat) {s : Int} (hs : Word s) : AllWords (ys.set j s) := by
  intro i hi
  simp at hi
  by_cases e : i = j
  · subst e; simpa [List.getD, hi] using hs
  · have := h i hi
    simpa [List.getD, List.getElem?_set, Ne.symm e] using this

theorem val_set : ∀ (ys : List Int) (j : Nat) (s : Int), j < ys.length → val (ys.set j s) = val ys + (s - ys.getD j 0) * 18446744073709551616 ^ j
  | x :: xs, 0, s, _ => by simp [val]; omega
  | x :: xs, j + 1, s, h => by
    have ih := val_set xs j s (by simpa using h)
    simp only [List.set_cons_succ, val, ih, List.getD_cons_succ, Int.pow_succ]
    generalize (18446744073709551616 : Int) ^ j = P
    generalize xs.getD j 0 = y
    rw [Int.mul_add, ← Int.mul_assoc, Int.mul_comm 18446744073709551616 (s - y), Int.mul_assoc, Int.mul_comm 18446744073709551616 P]
    omega

/-- One round of zzs5123aaddat. -/
theorem val_round {ys : List Int} {j : Nat} (hj : j < ys.length) {u s k T : Int} (hT : Hid (val ys + u * 18446744073709551616 ^ j = T)) (he : Hid (k * 18446744073709551616 + s = ys.getD j 0 + u + 0)) :
    Hid (val (ys.set j s) + k * 18446744073709551616 ^ (j + 1) = T) := by
  have h1 := unhide hT
  have h2 := unhide he
  refine hide ?_
  rw [val_set ys j s hj, Int.pow_succ, ← h1]
  have e : (s - ys.getD j 0) = u - k * 18446744073709551616 := by omega
  rw [e, Int.sub_mul, Int.mul_assoc, Int.mul_comm 18446744073709551616 (18446744073709551616 ^ j)]
  omega

/-- The last word's carry is 0 where the sum fits six words. -/
theorem val_end {ys : List Int} (ha : AllWords ys) {u T : Int} (hu : Word u) (hT : Hid (val ys + u * 18446744073709551616 ^ 6 = T)) (hlt : T < 18446744073709551616 ^ 6) : val ys = T := by
  have h1 := unhide hT
  have h2 := val_nonneg ys ha
  obtain ⟨h3, h4⟩ := hu
  have : u = 0 := by
    simp at h1 hlt
    omega
  subst this
  omega

/-- Block b holds the words ys, which may be written. -/
def RowAt (w : World) (b : Nat) (ys : List Int) : Prop := ∀ i, i < ys.length → w.cell? ⟨b, i, none⟩ = some (.int .u64 (ys.getD i 0)) ∧ w.frozen? ⟨b, i, none⟩ = false

/-- All but block b is as it was. -/
structure But (b : Nat) (w w' : World) : Prop where
  os : w'.os = w.os
  tape : w'.tape = w.tape
  output : w'.output = w.output
  size : w'.heap.size = w.heap.size
  block : ∀ k, k ≠ b → w'.heap[k]? = w.heap[k]?

theorem But.refl (b : Nat) (w : World) : But b w w := ⟨rfl, rfl, rfl, rfl, fun _ _ => rfl⟩
theorem But.trans {b : Nat} {u v w : World} (h : But b u v) (k : But b v w) : But b u w :=
  ⟨k.os.trans h.os, k.tape.trans h.tape, k.output.trans h.output, k.size.trans h.size, fun i hi => (k.block i hi).trans (h.block i hi)⟩
theorem But.set {b : Nat} {u v : World} (h : But b u v) (o : Nat) (x : Value) : But b u (v.setCell ⟨b, o, none⟩ x) :=
  h.trans ⟨rfl, rfl, rfl, by simp [World.setCell], fun k hk => block_set v ⟨b, o, none⟩ x k hk⟩
theorem But.drawn {b : Nat} {u v : World} (h : But b u v) (n : Nat) : But b u (v.drewN n) := h.trans ⟨rfl, rfl, rfl, rfl, fun _ _ => rfl⟩
theorem But.below {b B : Nat} {u v : World} (h : But b u v) (hb : B ≤ b) : Below B u v := ⟨h.os, h.tape, h.output, Nat.le_of_eq h.size.symm, fun k hk => h.block k (by omega)⟩

theorem RowAt.lt {w : World} {b : Nat} {ys : List Int} (h : RowAt w b ys) (hy : 0 < ys.length) : b < w.heap.size := by
  obtain ⟨h0, _⟩ := h 0 hy
  unfold World.cell? at h0
  by_cases hb : b < w.heap.size
  · exact hb
  · have e : w.heap[b]? = none := by simp; omega
    simp [e] at h0

theorem RowAt.set {w : World} {b : Nat} {ys : List Int} (h : RowAt w b ys) (j : Nat) (s : Int) : RowAt (w.setCell ⟨b, j, none⟩ (.int .u64 s)) b (ys.set j s) := by
  intro i hi
  simp at hi
  obtain ⟨h1, h2⟩ := h i hi
  refine ⟨?_, by simpa using h2⟩
  by_cases e : i = j
  · subst e
    rw [World.cell?_setCell_same w _ _ h1]
    simp [List.getD, hi]
  · rw [World.cell?_setCell_other w _ _ _ (fun c => e (by cases c; rfl)), h1]
    simp [List.getD, Ne.symm e]

theorem RowAt.below {W w : World} {b : Nat} {ys : List Int} (h : RowAt W b ys) {B : Nat} (hb : Below B W w) (hlt : b < B) : RowAt w b ys := by
  intro i hi
  rw [hb.cell (p := ⟨b, i, none⟩) hlt, hb.frozen (p := ⟨b, i, none⟩) hlt]
  exact h i hi
theorem RowAt.later {W w : World} {b : Nat} {ys : List Int} (h : RowAt W b ys) (hy : 0 < ys.length) (hb : Below W.heap.size W w) : RowAt w b ys := h.below hb (h.lt hy)
theorem RowAt.drawn {w : World} {b : Nat} {ys : List Int} (h : RowAt w b ys) (n : Nat) : RowAt (w.drewN n) b ys := h

theorem Four.but {u v : World} {b c : Nat} {x0 x1 x2 x3 : Int} (h : Four u c x0 x1 x2 x3) (hb : But b u v) (hne : c ≠ b) : Four v c x0 x1 x2 x3 := by
  unfold Four at *
  have e := hb.block c hne
  rw [World.cell?_of_block (w := u) (a := ⟨c, 0, none⟩) e, World.cell?_of_block (w := u) (a := ⟨c, 1, none⟩) e, World.cell?_of_block (w := u) (a := ⟨c, 2, none⟩) e, World.cell?_of_block (w := u) (a := ⟨c, 3, none⟩) e,
    World.frozen?_of_block (w := u) (a := ⟨c, 0, none⟩) e, World.frozen?_of_block (w := u) (a := ⟨c, 1, none⟩) e, World.frozen?_of_block (w := u) (a := ⟨c, 2, none⟩) e, World.frozen?_of_block (w := u) (a := ⟨c, 3, none⟩) e]
  exact h
end Go.Proofs.Ybulkdbbo
