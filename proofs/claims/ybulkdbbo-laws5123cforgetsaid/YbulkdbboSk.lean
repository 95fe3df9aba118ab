/-
  LawS5123CForget: one round of the law's own model.
-/
import Derived.Test.YbulkdbboTally
namespace Go.Proofs.Ybulkdbbo
open Go.RowKit Go.Lib

/-- What the model is when k accounts have been looked at. -/
def Sk (nn bl bh : Nat → Int) (cg : Nat → Bool) (n k : Nat) : St := after (fun x => idleB (nn x) (bl x) (bh x)) n ((List.range k).filter cg)
def gone (nn bl bh : Nat → Int) (cg : Nat → Bool) (x : Nat) : Bool := cg x && idleB (nn x) (bl x) (bh x)
def rmv (nn bl bh : Nat → Int) (cg : Nat → Bool) (k y : Nat) : Bool := decide (y < k) && gone nn bl bh cg y

section
variable {n : Nat} {nn bl bh : Nat → Int} {cg : Nat → Bool} {w1 w : World} {k : Nat}

theorem Sk_no (h : gone nn bl bh cg k = false) : Sk nn bl bh cg n (k + 1) = Sk nn bl bh cg n k := by
  unfold Sk
  cases hc : cg k with
  | false => simp [List.range_succ, List.filter_append, hc]
  | true =>
    have hi : idleB (nn k) (bl k) (bh k) = false := by simpa [gone, hc] using h
    rw [List.range_succ, List.filter_append, show [k].filter cg = [k] by simp [hc], after_snoc]
    exact if_neg (by show ¬ idleB (nn k) (bl k) (bh k) = true; rw [hi]; simp)
theorem Sk_yes (h : gone nn bl bh cg k = true) : Sk nn bl bh cg n (k + 1) = (Sk nn bl bh cg n k).out k := by
  unfold Sk
  have hc : cg k = true := by
    unfold gone at h
    cases hc : cg k
    · rw [hc] at h; simp at h
    · rfl
  have hi : idleB (nn k) (bl k) (bh k) = true := by simpa [gone, hc] using h
  rw [List.range_succ, List.filter_append, show [k].filter cg = [k] by simp [hc], after_snoc]
  exact if_pos hi
theorem Sk_mem {x : Nat} (h : x ∈ (List.range k).filter cg) : x < k := by
  have := (List.mem_filter.1 h).1
  simpa using this
theorem Sk_KL (hk : k ≤ n) : KL n (Sk nn bl bh cg n k).K (Sk nn bl bh cg n k).f (Sk nn bl bh cg n k).L :=
  after_KL _ n _ (List.nodup_range.filter _) (fun _ hx => Nat.lt_of_lt_of_le (Sk_mem hx) hk)
theorem Sk_in (hk : k < n) : k ∈ (Sk nn bl bh cg n k).L := after_mem _ n _ k hk (fun h => absurd (Sk_mem h) (Nat.lt_irrefl _))
theorem KL.len_le {N : Nat} {K : List Nat} {f : Nat → Nat} {L : List Nat} (h : KL N K f L) : K.length ≤ N := by
  rw [h.len]
  exact Ybulkdbbo.len_le L N h.nodup h.lt

theorem rmv_no (h : gone nn bl bh cg k = false) : rmv nn bl bh cg (k + 1) = rmv nn bl bh cg k := by
  funext y
  unfold rmv
  by_cases e : y = k
  · subst e; simp [h]
  · have : decide (y < k + 1) = decide (y < k) := by simp; omega
    rw [this]
theorem rmv_yes (h : gone nn bl bh cg k = true) : rmv nn bl bh cg (k + 1) = fun y => if y = k then true else rmv nn bl bh cg k y := by
  funext y
  unfold rmv
  by_cases e : y = k
  · subst e; simp [h]
  · have : decide (y < k + 1) = decide (y < k) := by simp; omega
    rw [this, if_neg e]

def T3 (nn bl bh : Nat → Int) (cg : Nat → Bool) (w1 : World) (n k : Nat) (w : World) : Prop := M3 w1 n (Sk nn bl bh cg n k).K (Sk nn bl bh cg n k).f (rmv nn bl bh cg k) w

theorem T3.start (h : M2 w1 n n w) : T3 nn bl bh cg w1 n 0 (w.alloc (.cells (bools0 n) 4)) := by
  have := h.done
  have e : rmv nn bl bh cg 0 = fun _ => false := by funext y; simp [rmv]
  unfold T3
  rw [e]
  exact this
theorem T3.no (h : T3 nn bl bh cg w1 n k w) (hg : gone nn bl bh cg k = false) : T3 nn bl bh cg w1 n (k + 1) w := by
  unfold T3
  rw [Sk_no hg, rmv_no hg]
  exact h
theorem T3.yes (h : T3 nn bl bh cg w1 n k w) (hk : k < n) (hg : gone nn bl bh cg k = true) :
    ∃ j l m, (Sk nn bl bh cg n k).K.length = m + 1 ∧ m + 1 ≤ n ∧ j < m + 1 ∧ l < n ∧ w.cell? ⟨w1.heap.size + 1, k, none⟩ = some (.int .i64 (j : Nat)) ∧ w.cell? ⟨w1.heap.size, m, none⟩ = some (.int .i64 (l : Nat)) ∧
      ((∃ v, w.cell? ⟨w1.heap.size, j, none⟩ = some v) ∧ w.frozen? ⟨w1.heap.size, j, none⟩ = false) ∧ ((∃ v, w.cell? ⟨w1.heap.size + 1, l, none⟩ = some v) ∧ w.frozen? ⟨w1.heap.size + 1, l, none⟩ = false) ∧ ((∃ v, w.cell? ⟨w1.heap.size + 1 + 1, k, none⟩ = some v) ∧ w.frozen? ⟨w1.heap.size + 1 + 1, k, none⟩ = false) ∧
      (Sk nn bl bh cg n (k + 1)).K.length = m ∧
      T3 nn bl bh cg w1 n (k + 1) (((w.setCell ⟨w1.heap.size, j, none⟩ (.int .i64 (l : Nat))).setCell ⟨w1.heap.size + 1, l, none⟩ (.int .i64 (j : Nat))).setCell ⟨w1.heap.size + 1 + 1, k, none⟩ (.bool true)) := by
  have q := Sk_KL (nn := nn) (bl := bl) (bh := bh) (cg := cg) (Nat.le_of_lt hk)
  obtain ⟨hj, hK⟩ := q.at_ k (Sk_in hk)
  have hle := q.len_le
  have hlast : lastOf (Sk nn bl bh cg n k).K < n := q.lt _ (q.mem _ (by omega)).1
  have hst := M3.step h hk hj hlast
  refine ⟨(Sk nn bl bh cg n k).f k, lastOf (Sk nn bl bh cg n k).K, (Sk nn bl bh cg n k).K.length - 1, by omega, by omega, by omega, hlast, h.cp k hk, h.cm _ (by omega), h.mm _ (by omega), h.mp _ hlast, h.mr _ hk, ?_, ?_⟩
  · rw [Sk_yes hg]; exact outK_length _ _
  · unfold T3
    rw [Sk_yes hg, rmv_yes hg]
    exact hst
end
end Go.Proofs.Ybulkdbbo
