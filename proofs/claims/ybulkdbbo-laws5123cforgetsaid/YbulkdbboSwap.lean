/-
  'p.kept = swapOut(p.kept, acct.kept, ..)' over the pool in memory.
-/
import Derived.Test.YbulkdbboPool
namespace Go.Proofs.Ybulkdbbo
open Go.RowKit Go.Lib

/-- The world behind it. -/
def swapped (c : Cfg) (w : World) (s : St) (j : Nat) : World :=
  (((w.setCell ⟨c.gk, j, none⟩ (.pointer (some ⟨c.A (lastOf s.K), 0, none⟩))).setCell ⟨c.A (lastOf s.K), 8, none⟩ (.int .i64 j)).setCell ⟨c.gk, s.K.length - 1, none⟩ (.pointer none)).setCell ⟨c.p, 11, none⟩ (.slice c.ka (s.K.length - 1) c.ck)

theorem Fr.swap {c : Cfg} {u w : World} {s : St} (h : Fr c u w) (j : Nat) (hl : lastOf s.K < c.n) : Fr c u (swapped c w s j) :=
  (((h.set _ (.inr (.inl rfl))).set _ (.inr (.inr (.inr ⟨_, hl, rfl⟩)))).set _ (.inr (.inl rfl))).set _ (.inl rfl)

theorem Pl.swap {c : Cfg} {w : World} {s : St} {h : Nat → Bool} (P : Pl c w s h) (a : Apart c) (j : Nat) (hj : j < s.K.length) (hl : lastOf s.K < c.n) : Pl c (swapped c w s j) ⟨outK s.K j, outF s.K s.f j, s.L⟩ h := by
  have hb : ∀ k, k ≠ c.p → k ≠ c.gk → k ≠ c.A (lastOf s.K) → (swapped c w s j).heap[k]? = w.heap[k]? := fun k h1 h2 h3 => by
    unfold swapped
    rw [block_set _ _ _ _ h1, block_set _ _ _ _ h2, block_set _ _ _ _ h3, block_set _ _ _ _ h2]
  have hp : ∀ o, o ≠ 11 → (swapped c w s j).cell? ⟨c.p, o, none⟩ = w.cell? ⟨c.p, o, none⟩ := fun o ho => by
    unfold swapped
    rw [set_far _ _ 11 o _ (Ne.symm ho), World.cell?_of_block (a := ⟨c.p, o, none⟩) (block_set _ _ _ _ a.pk), World.cell?_of_block (a := ⟨c.p, o, none⟩) (block_set _ _ _ _ (Ne.symm (a.ap _ hl))), World.cell?_of_block (a := ⟨c.p, o, none⟩) (block_set _ _ _ _ a.pk)]
  have hf : ∀ b o, (swapped c w s j).frozen? ⟨b, o, none⟩ = w.frozen? ⟨b, o, none⟩ := fun b o => by simp [swapped]
  have hk : ∀ i, i < s.K.length - 1 → (swapped c w s j).cell? ⟨c.gk, i, none⟩ = if i = j then some (.pointer (some ⟨c.A (lastOf s.K), 0, none⟩)) else w.cell? ⟨c.gk, i, none⟩ := fun i hi => by
    unfold swapped
    rw [World.cell?_of_block (a := ⟨c.gk, i, none⟩) (block_set _ _ _ _ (Ne.symm a.pk)), set_far _ _ _ i _ (by omega), World.cell?_of_block (a := ⟨c.gk, i, none⟩) (block_set _ _ _ _ (Ne.symm (a.ak _ hl)))]
    by_cases e : i = j
    · subst e
      rw [if_pos rfl]
      exact World.cell?_setCell_same w _ _ (P.kc i hj).1
    · rw [if_neg e, set_far _ _ _ i _ (Ne.symm e)]
  obtain ⟨clk, hes⟩ := P.es
  refine ⟨(hp 10 (by omega)).trans P.m, ?_, (hp 29 (by omega)).trans P.ch, (hp 19 (by omega)).trans P.fee0, (hp 20 (by omega)).trans P.fee1, (hp 21 (by omega)).trans P.fee2, (hp 22 (by omega)).trans P.fee3, (hp 23 (by omega)).trans P.s1, (hp 25 (by omega)).trans P.s2, (hp 27 (by omega)).trans P.s3, (hp 32 (by omega)).trans P.s4, (hf _ _).trans P.f11, (hf _ _).trans P.f29, ⟨clk, (hb c.r (Ne.symm a.pr) a.rk (Ne.symm (a.ar _ hl))).trans hes⟩, fun i hi => ?_, fun t ht => ?_, fun y hy => ?_⟩
  · rw [outK_length]
    unfold swapped
    refine World.cell?_setCell_same _ _ _ (u := .slice c.ka s.K.length c.ck) ?_
    rw [World.cell?_of_block (a := ⟨c.p, 11, none⟩) (block_set _ _ _ _ a.pk), World.cell?_of_block (a := ⟨c.p, 11, none⟩) (block_set _ _ _ _ (Ne.symm (a.ap _ hl))), World.cell?_of_block (a := ⟨c.p, 11, none⟩) (block_set _ _ _ _ a.pk)]
    exact P.kept
  · rw [outK_length] at hi
    refine ⟨?_, (hf _ _).trans (P.kc i (by omega)).2⟩
    rw [hk i hi, outK_get s.K j i hi]
    by_cases e : i = j
    · rw [if_pos e, if_pos e]
    · rw [if_neg e, if_neg e]
      exact (P.kc i (by omega)).1
  · have e := hb c.gc (Ne.symm a.pc) (Ne.symm a.kc) (Ne.symm (a.ac _ hl))
    exact ⟨cell_some_block (P.cch t ht).1 e, frozen_block (P.cch t ht).2 e⟩
  · by_cases e : y = lastOf s.K
    · subst e
      have : outF s.K s.f j (lastOf s.K) = j := by unfold outF; rw [if_pos rfl]
      show AcctIs _ _ _ _ _ _ (outF s.K s.f j (lastOf s.K)) _ _
      rw [this]
      unfold swapped
      have b1 := (P.acc _ hy).same (w' := w.setCell ⟨c.gk, j, none⟩ (.pointer (some ⟨c.A (lastOf s.K), 0, none⟩))) (block_set _ _ _ _ (a.ak _ hy))
      have b2 := b1.stand j
      exact (b2.same (block_set _ ⟨c.gk, s.K.length - 1, none⟩ (.pointer none) _ (a.ak _ hy))).same (block_set _ ⟨c.p, 11, none⟩ (.slice c.ka (s.K.length - 1) c.ck) _ (a.ap _ hy))
    · have : outF s.K s.f j y = s.f y := by unfold outF; rw [if_neg e]
      show AcctIs _ _ _ _ _ _ (outF s.K s.f j y) _ _
      rw [this]
      exact (P.acc y hy).same (hb _ (a.ap y hy) (a.ak y hy) (fun k => e (a.inj y _ hy hl k)))
theorem setCells_block (b : Nat) : ∀ (vs : List Value) (o : Nat) (w : World) (k : Nat), k ≠ b → (w.setCells b o vs).heap[k]? = w.heap[k]?
  | [], _, _, _, _ => rfl
  | v :: vs, o, w, k, h => by
    rw [World.setCells, setCells_block b vs (o + 1) _ k h, block_set w ⟨b, o, none⟩ v k h]
theorem setCells_rest (b : Nat) : ∀ (vs : List Value) (o : Nat) (w : World), (w.setCells b o vs).os = w.os ∧ (w.setCells b o vs).tape = w.tape ∧ (w.setCells b o vs).output = w.output ∧ (w.setCells b o vs).heap.size = w.heap.size
  | [], _, _ => ⟨rfl, rfl, rfl, rfl⟩
  | v :: vs, o, w => by
    rw [World.setCells]
    obtain ⟨h1, h2, h3, h4⟩ := setCells_rest b vs (o + 1) (w.setCell ⟨b, o, none⟩ v)
    exact ⟨h1, h2, h3, h4.trans (by simp [World.setCell])⟩
theorem Fr.cells {c : Cfg} {u v : World} (h : Fr c u v) (o : Nat) (vs : List Value) : Fr c u (v.setCells c.gc o vs) := by
  obtain ⟨h1, h2, h3, h4⟩ := setCells_rest c.gc vs o v
  exact h.trans ⟨h1, h2, h3, Nat.le_of_eq h4.symm, fun k _ _ _ _ e _ => setCells_block c.gc vs o v k e⟩

/-- 'clear(p.changed); p.changed = p.changed[:0]'. -/
theorem Pl.cleared {c : Cfg} {w w' : World} {s : St} {h : Nat → Bool} (P : Pl c w s h) (a : Apart c) (hb : ∀ k, k ≠ c.gc → w'.heap[k]? = w.heap[k]?) (hh : ∀ x, x < c.n → h x = false) :
    Pl { c with C := [] } (w'.setCell ⟨c.p, 29, none⟩ (.slice c.ca 0 c.cc)) s (fun _ => false) := by
  have hp := hb c.p a.pc
  have e : ∀ k, k ≠ c.p → k ≠ c.gc → (w'.setCell ⟨c.p, 29, none⟩ (.slice c.ca 0 c.cc)).heap[k]? = w.heap[k]? := fun k h1 h2 => (block_set w' ⟨c.p, 29, none⟩ _ k h1).trans (hb k h2)
  have q : ∀ o v, o ≠ 29 → w.cell? ⟨c.p, o, none⟩ = some v → (w'.setCell ⟨c.p, 29, none⟩ (.slice c.ca 0 c.cc)).cell? ⟨c.p, o, none⟩ = some v := fun o v ho hv => (set_far w' c.p 29 o _ (Ne.symm ho)).trans (cell_some_block hv hp)
  have qf : ∀ o, w.frozen? ⟨c.p, o, none⟩ = false → (w'.setCell ⟨c.p, 29, none⟩ (.slice c.ca 0 c.cc)).frozen? ⟨c.p, o, none⟩ = false := fun o hv => by simpa using frozen_block hv hp
  obtain ⟨clk, hes⟩ := P.es
  refine ⟨q _ _ (by omega) P.m, q _ _ (by omega) P.kept, World.cell?_setCell_same _ _ _ (cell_some_block P.ch hp), q _ _ (by omega) P.fee0, q _ _ (by omega) P.fee1, q _ _ (by omega) P.fee2, q _ _ (by omega) P.fee3, q _ _ (by omega) P.s1, q _ _ (by omega) P.s2, q _ _ (by omega) P.s3, q _ _ (by omega) P.s4, qf _ P.f11, qf _ P.f29, ⟨clk, (e c.r (Ne.symm a.pr) a.rc).trans hes⟩,
    fun j hj => ⟨cell_some_block (P.kc j hj).1 (e _ (Ne.symm a.pk) a.kc), frozen_block (P.kc j hj).2 (e _ (Ne.symm a.pk) a.kc)⟩, fun t ht => absurd ht (by simp), fun y hy => ?_⟩
  have := (P.acc y hy).same (e _ (a.ap y hy) (a.ac y hy))
  rw [hh y hy] at this
  exact this
end Go.Proofs.Ybulkdbbo
