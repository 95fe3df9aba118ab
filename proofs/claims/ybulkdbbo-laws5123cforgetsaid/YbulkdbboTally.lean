/-
  LawS5123CForget: the law's own model, its three slices.
-/
import Derived.Test.YbulkdbboHand
namespace Go.Proofs.Ybulkdbbo
open Go.RowKit Go.Lib

theorem info3 : (Yba.prog.info? 3).map (fun i => (i.zero, i.size, i.bytes)) = some (some (.int .i64 0), 1, 8) := by kernel_rfl
theorem info4 : (Yba.prog.info? 4).map (fun i => (i.zero, i.size, i.bytes)) = some (some (.bool false), 1, 1) := by kernel_rfl
def ints0 (n : Nat) : Array Value := madeCells #[.int .i64 0] n
def bools0 (n : Nat) : Array Value := madeCells #[.bool false] n
theorem make59 (n : Nat) (hn : n ≤ 1024) (w : World) : (Instr.makeSlice 59 (.int .i64 (n : Int)) (.int .i64 (n : Int))).run Yba.prog w = .ok (.slice (some ⟨w.heap.size, 0, none⟩) n n) (w.alloc (.cells (ints0 n) 3)) := by
  obtain ⟨i, hi, h1, h2, h3⟩ := info_parts info3
  have hr := run_make (P := Yba.prog) w 59 3 i _ Yba.underlying59 hi h1 .i64 .i64 n n (by omega) (Int.le_refl _) (by rw [h3]; omega) (by omega)
  simp only [Int.toNat_natCast, h2, Value.cells, Nat.mul_one] at hr
  exact hr
theorem make60 (n : Nat) (hn : n ≤ 1024) (w : World) : (Instr.makeSlice 60 (.int .i64 (n : Int)) (.int .i64 (n : Int))).run Yba.prog w = .ok (.slice (some ⟨w.heap.size, 0, none⟩) n n) (w.alloc (.cells (bools0 n) 4)) := by
  obtain ⟨i, hi, h1, h2, h3⟩ := info_parts info4
  have hr := run_make (P := Yba.prog) w 60 4 i _ Yba.underlying60 hi h1 .i64 .i64 n n (by omega) (Int.le_refl _) (by rw [h3]; omega) (by omega)
  simp only [Int.toNat_natCast, h2, Value.cells, Nat.mul_one] at hr
  exact hr
theorem made_get (z : Value) (n x : Nat) (hx : x < n) : (madeCells #[z] n)[x]? = some z := by simp [madeCells, hx, Nat.mod_one]

/-- A row that can be written. -/
def Room (b n : Nat) (w : World) : Prop := ∀ x, x < n → (∃ v, w.cell? ⟨b, x, none⟩ = some v) ∧ w.frozen? ⟨b, x, none⟩ = false
theorem Room.same {b n : Nat} {w w' : World} (h : Room b n w) (e : w'.heap[b]? = w.heap[b]?) : Room b n w' := fun x hx => by
  obtain ⟨⟨v, hv⟩, hf⟩ := h x hx
  exact ⟨⟨v, cell_some_block hv e⟩, frozen_block hf e⟩
theorem Room.set {b n : Nat} {w : World} (h : Room b n w) (a : Addr) (v : Value) (ha : a = ⟨a.block, a.off, none⟩) : Room b n (w.setCell a v) := fun x hx => by
  obtain ⟨⟨u, hu⟩, hf⟩ := h x hx
  refine ⟨?_, by simpa using hf⟩
  by_cases e1 : a.block = b
  · by_cases e2 : a.off = x
    · rw [ha, e1, e2]
      exact ⟨v, World.cell?_setCell_same w _ _ hu⟩
    · rw [ha, e1]
      exact ⟨u, (set_far w b a.off x _ e2).trans hu⟩
  · exact ⟨u, cell_some_block hu (block_set w a v b (Ne.symm e1))⟩
theorem Room.made (w : World) (z : Value) (n e : Nat) : Room w.heap.size n (w.alloc (.cells (madeCells #[z] n) e)) := fun x hx => by
  rw [World.cell?_alloc_at _ _ _ _ rfl, World.frozen?_alloc_at _ _ _ _ rfl]
  exact ⟨⟨z, made_get z n x hx⟩, rfl⟩

/-- model and pos, k places filled. -/
structure M2 (w1 : World) (n k : Nat) (w : World) : Prop where
  bel : Below w1.heap.size w1 w
  sz : w.heap.size = w1.heap.size + 1 + 1
  rm : Room w1.heap.size n w
  rp : Room (w1.heap.size + 1) n w
  cm : ∀ x, x < k → w.cell? ⟨w1.heap.size, x, none⟩ = some (.int .i64 (x : Nat))
  cp : ∀ x, x < k → w.cell? ⟨w1.heap.size + 1, x, none⟩ = some (.int .i64 (x : Nat))

theorem M2.start (w1 : World) (n : Nat) : M2 w1 n 0 ((w1.alloc (.cells (ints0 n) 3)).alloc (.cells (ints0 n) 3)) := by
  refine ⟨((Below.refl _ _).alloc (Nat.le_refl _) _).alloc (by simp) _, by simp, ?_, ?_, fun x hx => absurd hx (by omega), fun x hx => absurd hx (by omega)⟩
  · exact (Room.made w1 (.int .i64 0) n 3).same (Below.heap_alloc _ _ _ (by simp))
  · have := Room.made (w1.alloc (.cells (ints0 n) 3)) (.int .i64 0) n 3
    rw [World.size_alloc] at this
    exact this
theorem M2.step {w1 w : World} {n k : Nat} (h : M2 w1 n k w) (hk : k < n) : M2 w1 n (k + 1) ((w.setCell ⟨w1.heap.size, k, none⟩ (.int .i64 (k : Nat))).setCell ⟨w1.heap.size + 1, k, none⟩ (.int .i64 (k : Nat))) := by
  refine ⟨(h.bel.setCell (p := ⟨w1.heap.size, k, none⟩) (Nat.le_refl _) _).setCell (p := ⟨w1.heap.size + 1, k, none⟩) (Nat.le_succ _) _, by simpa using h.sz, (h.rm.set _ _ rfl).set _ _ rfl, (h.rp.set _ _ rfl).set _ _ rfl, fun x hx => ?_, fun x hx => ?_⟩
  · refine cell_some_block (w := w.setCell ⟨w1.heap.size, k, none⟩ (.int .i64 (k : Nat))) ?_ (block_set _ ⟨w1.heap.size + 1, k, none⟩ _ _ (by show w1.heap.size ≠ w1.heap.size + 1; omega))
    by_cases e : x = k
    · subst e
      obtain ⟨⟨v, hv⟩, _⟩ := h.rm x hk
      exact World.cell?_setCell_same w _ _ hv
    · rw [set_far w _ k x _ (Ne.symm e)]; exact h.cm x (by omega)
  · by_cases e : x = k
    · subst e
      obtain ⟨⟨v, hv⟩, _⟩ := (h.rp.set ⟨w1.heap.size, x, none⟩ (.int .i64 (x : Nat)) rfl) x hk
      exact World.cell?_setCell_same _ _ _ hv
    · rw [set_far _ _ k x _ (Ne.symm e)]
      exact cell_some_block (h.cp x (by omega)) (block_set w ⟨w1.heap.size, k, none⟩ _ _ (by show w1.heap.size + 1 ≠ w1.heap.size; omega))

/-- model, pos and removed. -/
structure M3 (w1 : World) (n : Nat) (K : List Nat) (f : Nat → Nat) (rm : Nat → Bool) (w : World) : Prop where
  bel : Below w1.heap.size w1 w
  sz : w1.heap.size + 1 + 1 + 1 ≤ w.heap.size
  mm : Room w1.heap.size n w
  mp : Room (w1.heap.size + 1) n w
  mr : Room (w1.heap.size + 1 + 1) n w
  cm : ∀ j, j < K.length → w.cell? ⟨w1.heap.size, j, none⟩ = some (.int .i64 ((K.getD j 0 : Nat) : Int))
  cp : ∀ x, x < n → w.cell? ⟨w1.heap.size + 1, x, none⟩ = some (.int .i64 ((f x : Nat) : Int))
  cr : ∀ x, x < n → w.cell? ⟨w1.heap.size + 1 + 1, x, none⟩ = some (.bool (rm x))

theorem M2.done {w1 w : World} {n : Nat} (h : M2 w1 n n w) : M3 w1 n (st0 n).K (st0 n).f (fun _ => false) (w.alloc (.cells (bools0 n) 4)) := by
  have sz := h.sz
  have e : ∀ k, k < w.heap.size → (w.alloc (.cells (bools0 n) 4)).heap[k]? = w.heap[k]? := fun k hk => Below.heap_alloc _ _ _ hk
  refine ⟨h.bel.alloc (by omega) _, by simp; omega, h.rm.same (e _ (by omega)), h.rp.same (e _ (by omega)), ?_, fun j hj => ?_, fun x hx => cell_some_block (h.cp x hx) (e _ (by omega)), fun x hx => ?_⟩
  · have := Room.made w (.bool false) n 4
    rw [sz] at this
    exact this
  · have hj' : j < n := by simpa [st0] using hj
    have := cell_some_block (h.cm j hj') (e _ (by omega))
    rw [this]
    simp [st0, List.getD, hj']
  · rw [← sz]
    rw [World.cell?_alloc_at _ _ _ _ rfl]
    exact made_get _ n x hx

theorem M3.same {w1 w w' : World} {n : Nat} {K : List Nat} {f : Nat → Nat} {rm : Nat → Bool} (h : M3 w1 n K f rm w) (hb : Below w1.heap.size w1 w') (hs : w.heap.size ≤ w'.heap.size) (e : ∀ k, w1.heap.size ≤ k → k < w.heap.size → w'.heap[k]? = w.heap[k]?) : M3 w1 n K f rm w' := by
  have sz := h.sz
  refine ⟨hb, by omega, h.mm.same (e _ (by omega) (by omega)), h.mp.same (e _ (by omega) (by omega)), h.mr.same (e _ (by omega) (by omega)), fun j hj => cell_some_block (h.cm j hj) (e _ (by omega) (by omega)), fun x hx => cell_some_block (h.cp x hx) (e _ (by omega) (by omega)), fun x hx => cell_some_block (h.cr x hx) (e _ (by omega) (by omega))⟩

/-- One account taken out of the model. -/
theorem M3.step {w1 w : World} {n : Nat} {K : List Nat} {f : Nat → Nat} {rm : Nat → Bool} (h : M3 w1 n K f rm w) {x : Nat} (hx : x < n) (hf : f x < K.length) (hl : lastOf K < n) :
    M3 w1 n (outK K (f x)) (outF K f (f x)) (fun y => if y = x then true else rm y) (((w.setCell ⟨w1.heap.size, f x, none⟩ (.int .i64 ((lastOf K : Nat) : Int))).setCell ⟨w1.heap.size + 1, lastOf K, none⟩ (.int .i64 ((f x : Nat) : Int))).setCell ⟨w1.heap.size + 1 + 1, x, none⟩ (.bool true)) := by
  have n1 : w1.heap.size ≠ w1.heap.size + 1 := by omega
  have n2 : w1.heap.size ≠ w1.heap.size + 1 + 1 := by omega
  have n3 : w1.heap.size + 1 ≠ w1.heap.size + 1 + 1 := by omega
  refine ⟨((h.bel.setCell (p := ⟨w1.heap.size, f x, none⟩) (Nat.le_refl _) _).setCell (p := ⟨w1.heap.size + 1, lastOf K, none⟩) (Nat.le_succ _) _).setCell (p := ⟨w1.heap.size + 1 + 1, x, none⟩) (by show w1.heap.size ≤ w1.heap.size + 1 + 1; omega) _, by simpa using h.sz,
    ((h.mm.set _ _ rfl).set _ _ rfl).set _ _ rfl, ((h.mp.set _ _ rfl).set _ _ rfl).set _ _ rfl, ((h.mr.set _ _ rfl).set _ _ rfl).set _ _ rfl, fun j hj => ?_, fun y hy => ?_, fun y hy => ?_⟩
  · rw [outK_length] at hj
    refine cell_some_block (cell_some_block (w := w.setCell ⟨w1.heap.size, f x, none⟩ (.int .i64 ((lastOf K : Nat) : Int))) ?_ (block_set _ ⟨w1.heap.size + 1, lastOf K, none⟩ _ _ n1)) (block_set _ ⟨w1.heap.size + 1 + 1, x, none⟩ _ _ n2)
    rw [outK_get K (f x) j hj]
    by_cases e : j = f x
    · subst e
      rw [if_pos rfl]
      exact World.cell?_setCell_same w _ _ (h.cm _ hf)
    · rw [if_neg e, set_far w _ (f x) j _ (Ne.symm e)]
      exact h.cm j (by omega)
  · refine cell_some_block (w := (w.setCell ⟨w1.heap.size, f x, none⟩ (.int .i64 ((lastOf K : Nat) : Int))).setCell ⟨w1.heap.size + 1, lastOf K, none⟩ (.int .i64 ((f x : Nat) : Int))) ?_ (block_set _ ⟨w1.heap.size + 1 + 1, x, none⟩ _ _ n3)
    unfold outF
    by_cases e : y = lastOf K
    · subst e
      rw [if_pos rfl]
      exact World.cell?_setCell_same _ _ _ (cell_some_block (h.cp _ hl) (block_set w ⟨w1.heap.size, f x, none⟩ _ _ (Ne.symm n1)))
    · rw [if_neg e, set_far _ _ (lastOf K) y _ (Ne.symm e)]
      exact cell_some_block (h.cp y hy) (block_set w ⟨w1.heap.size, f x, none⟩ _ _ (Ne.symm n1))
  · by_cases e : y = x
    · subst e
      rw [if_pos rfl]
      exact World.cell?_setCell_same _ _ _ (cell_some_block (cell_some_block (h.cr y hy) (block_set w ⟨w1.heap.size, f y, none⟩ _ _ (Ne.symm n2))) (block_set _ ⟨w1.heap.size + 1, lastOf K, none⟩ _ _ (Ne.symm n3)))
    · rw [if_neg e, set_far _ _ x y _ (Ne.symm e)]
      exact cell_some_block (cell_some_block (h.cr y hy) (block_set w ⟨w1.heap.size, f x, none⟩ _ _ (Ne.symm n2))) (block_set _ ⟨w1.heap.size + 1, lastOf K, none⟩ _ _ (Ne.symm n3))
end Go.Proofs.Ybulkdbbo
