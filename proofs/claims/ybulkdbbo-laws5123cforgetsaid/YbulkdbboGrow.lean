/-
  The pool while LawS5123CForget fills it: group by group, each told of its own block.
-/
import Derived.Test.YbulkdbboChanged
import Derived.Maps.AppendAt
import Derived.Laws.MakeOwn
namespace Go.Proofs.Ybulkdbbo
open Go.RowKit Go.Lib

def ptrA (A : Nat → Nat) (x : Nat) : Value := .pointer (some ⟨A x, 0, none⟩)

/-- The pool's own cells. -/
structure PB (p r : Nat) (w : World) (kv cv : Value) : Prop where
  m : w.cell? ⟨p, 10, none⟩ = some (.map (some r))
  kept : w.cell? ⟨p, 11, none⟩ = some kv
  ch : w.cell? ⟨p, 29, none⟩ = some cv
  fee0 : w.cell? ⟨p, 19, none⟩ = some (.int .u64 0)
  fee1 : w.cell? ⟨p, 20, none⟩ = some (.int .u64 0)
  fee2 : w.cell? ⟨p, 21, none⟩ = some (.int .u64 0)
  fee3 : w.cell? ⟨p, 22, none⟩ = some (.int .u64 0)
  s1 : w.cell? ⟨p, 23, none⟩ = some (.slice none 0 0)
  s2 : w.cell? ⟨p, 25, none⟩ = some (.slice none 0 0)
  s3 : w.cell? ⟨p, 27, none⟩ = some (.slice none 0 0)
  s4 : w.cell? ⟨p, 32, none⟩ = some (.int .u64 0)
  f11 : w.frozen? ⟨p, 11, none⟩ = false
  f29 : w.frozen? ⟨p, 29, none⟩ = false

theorem PB.same {p r : Nat} {w w' : World} {kv cv : Value} (h : PB p r w kv cv) (e : w'.heap[p]? = w.heap[p]?) : PB p r w' kv cv :=
  ⟨cell_some_block h.m e, cell_some_block h.kept e, cell_some_block h.ch e, cell_some_block h.fee0 e, cell_some_block h.fee1 e, cell_some_block h.fee2 e, cell_some_block h.fee3 e, cell_some_block h.s1 e, cell_some_block h.s2 e, cell_some_block h.s3 e, cell_some_block h.s4 e, frozen_block h.f11 e, frozen_block h.f29 e⟩
theorem PB.setKept {p r : Nat} {w : World} {kv cv : Value} (h : PB p r w kv cv) (v : Value) : PB p r (w.setCell ⟨p, 11, none⟩ v) v cv := by
  have q : ∀ o u, o ≠ 11 → w.cell? ⟨p, o, none⟩ = some u → (w.setCell ⟨p, 11, none⟩ v).cell? ⟨p, o, none⟩ = some u := fun o u ho hu => (set_far w p 11 o _ (Ne.symm ho)).trans hu
  exact ⟨q _ _ (by omega) h.m, World.cell?_setCell_same _ _ _ h.kept, q _ _ (by omega) h.ch, q _ _ (by omega) h.fee0, q _ _ (by omega) h.fee1, q _ _ (by omega) h.fee2, q _ _ (by omega) h.fee3, q _ _ (by omega) h.s1, q _ _ (by omega) h.s2, q _ _ (by omega) h.s3, q _ _ (by omega) h.s4, by simpa using h.f11, by simpa using h.f29⟩
theorem PB.setCh {p r : Nat} {w : World} {kv cv : Value} (h : PB p r w kv cv) (v : Value) : PB p r (w.setCell ⟨p, 29, none⟩ v) kv v := by
  have q : ∀ o u, o ≠ 29 → w.cell? ⟨p, o, none⟩ = some u → (w.setCell ⟨p, 29, none⟩ v).cell? ⟨p, o, none⟩ = some u := fun o u ho hu => (set_far w p 29 o _ (Ne.symm ho)).trans hu
  exact ⟨q _ _ (by omega) h.m, q _ _ (by omega) h.kept, World.cell?_setCell_same _ _ _ h.ch, q _ _ (by omega) h.fee0, q _ _ (by omega) h.fee1, q _ _ (by omega) h.fee2, q _ _ (by omega) h.fee3, q _ _ (by omega) h.s1, q _ _ (by omega) h.s2, q _ _ (by omega) h.s3, q _ _ (by omega) h.s4, by simpa using h.f11, by simpa using h.f29⟩

/-- The slice 'accts': k places filled. -/
structure AB (ba n k : Nat) (A : Nat → Nat) (w : World) : Prop where
  put : ∀ x, x < k → w.cell? ⟨ba, x, none⟩ = some (ptrA A x)
  room : ∀ x, x < n → (∃ v, w.cell? ⟨ba, x, none⟩ = some v) ∧ w.frozen? ⟨ba, x, none⟩ = false
theorem AB.same {ba n k : Nat} {A : Nat → Nat} {w w' : World} (h : AB ba n k A w) (e : w'.heap[ba]? = w.heap[ba]?) : AB ba n k A w' :=
  ⟨fun x hx => cell_some_block (h.put x hx) e, fun x hx => by
    obtain ⟨⟨v, hv⟩, hf⟩ := h.room x hx
    exact ⟨⟨v, cell_some_block hv e⟩, frozen_block hf e⟩⟩
theorem AB.set {ba n k : Nat} {A : Nat → Nat} {w : World} (h : AB ba n k A w) (hk : k < n) : AB ba n (k + 1) A (w.setCell ⟨ba, k, none⟩ (ptrA A k)) := by
  obtain ⟨⟨v, hv⟩, hf⟩ := h.room k hk
  refine ⟨fun x hx => ?_, fun x hx => ?_⟩
  · by_cases e : x = k
    · subst e; exact World.cell?_setCell_same w _ _ hv
    · rw [set_far w ba k x _ (Ne.symm e)]; exact h.put x (by omega)
  · obtain ⟨⟨u, hu⟩, hg⟩ := h.room x hx
    refine ⟨?_, by simpa using hg⟩
    by_cases e : x = k
    · subst e; exact ⟨_, World.cell?_setCell_same w _ _ hv⟩
    · exact ⟨u, by rw [set_far w ba k x _ (Ne.symm e)]; exact hu⟩

theorem ownsRow_same {w w' : World} {base e size : Nat} {v : Value} {n : Nat} {xs : List Value} (h : w.ownsRow base e size v n xs) (hs : ∀ g, v.ownBlock = some g → w'.heap[g]? = w.heap[g]?) : w'.ownsRow base e size v n xs := by
  obtain ⟨h1, h2⟩ := h
  refine ⟨h1, ?_⟩
  rcases h2 with h2 | ⟨g, cap, cur, hv, hg, hh, r⟩
  · exact Or.inl h2
  · exact Or.inr ⟨g, cap, cur, hv, hg, by rw [hs g (by rw [hv]; rfl)]; exact hh, r⟩

theorem info52 : (Yba.prog.info? 52).map (fun i => (i.zero, i.size, i.bytes)) = some (some (.pointer none), 1, 8) := by kernel_rfl

/-- 'append' of one account onto a row of the call's own: what run_append_own tells, and that the row is the old one or a new one. -/
theorem run_append_acct (w : World) (base : Nat) (ty : TypeId) (v : Value) (n : Nat) (xs : List Value) (hown : w.ownsRow base 52 1 v n xs) (ad : Addr) (p : Value) (hp : p.oneCell' = true) (hc : ∀ j u, [p][j]? = some u → w.cell? (ad.add j) = some u) (hn : n ≤ 100000) (hbase : base ≤ w.heap.size) :
    ∃ v' w', (Builtin.append_ #[39, 39] ty #[v, .slice (some ad) 1 1]).run Yba.prog w = .ok v' w' ∧ w'.ownsRow base 52 1 v' (n + 1) (xs ++ [p]) ∧ w.grownBy w' v.ownBlock ∧
      ∃ g' c', v' = .slice (some ⟨g', 0, none⟩) (n + 1) c' ∧ (v.ownBlock = some g' ∨ w.heap.size ≤ g') := by
  obtain ⟨i0, hi0, hz0, hz1, hz2⟩ := info_parts info52
  have h1 : ∀ u ∈ [p], u.oneCell' = true := by intro u hu; simp at hu; subst hu; exact hp
  obtain ⟨v', w', hr, h2, h3, h4⟩ := run_append_own (P := Yba.prog) w base 39 ty 52 i0 (.pointer none) 1 8 Yba.underlying39 hi0 hz0 hz1 hz2 rfl (by decide) v n xs hown ad 1 1 [p] rfl hc h1 (by unfold maxLen; omega) (by omega) hbase
  refine ⟨v', w', hr, h2, h3, ?_⟩
  rcases hown.2 with ⟨rfl, rfl⟩ | ⟨g, cap, cur, rfl, hbg, hg, hnc, hcm, hcs, htake⟩
  · have e := run_append_nil (P := Yba.prog) w 39 ty 52 i0 (.pointer none) Yba.underlying39 hi0 hz0 ad 1 1 [p] (by rw [hz1]; rfl) hc (by omega) (by omega) (by rw [hz2]; omega)
    rw [e] at hr
    injection hr with e1 e2
    exact ⟨_, _, e1.symm, .inr (Nat.le_refl _)⟩
  · by_cases hroom : n + 1 ≤ cap
    · have e := run_append_room (P := Yba.prog) w 39 ty 52 i0 Yba.underlying39 hi0 g n cap cur hg ad 1 1 [p] (by rw [hz1]; rfl) hc h1 hroom (by rw [hz1, hcs]; simp; omega)
      rw [e] at hr
      injection hr with e1 e2
      exact ⟨_, _, e1.symm, .inl rfl⟩
    · have e := run_append_grow (P := Yba.prog) w 39 ty 52 i0 (.pointer none) Yba.underlying39 hi0 hz0 ⟨g, 0, none⟩ n cap xs (by rw [hz1]; exact hown.1) (hown.cells (g := g) rfl) ad 1 1 [p] (by rw [hz1]; rfl) hc (by omega) (by omega) (growslice_fits (by omega) (by rw [hz2]; omega))
      rw [e] at hr
      injection hr with e1 e2
      exact ⟨_, _, e1.symm, .inr (Nat.le_refl _)⟩

theorem wpList_append_acct {ops : Array Oper} {rest : List Oper} {o : Oper} {a : Act} {Q : Exit → Act → World → Prop} (hgd : o.guard = none) (s x : Operand)
    (ho : o.op = .call { callee := .builtin .append, args := #[s, x], argTypes := #[39, 39] })
    (base : Nat) (v : Value) (n : Nat) (xs : List Value) (hs : a.eval s = v) (w0 : World) (hown : w0.ownsRow base 52 1 v n xs) (p : Value) (hp : p.oneCell' = true)
    (g : Nat) (hg : g = w0.heap.size) (hx : a.eval x = .slice (some ⟨g, 0, none⟩) 1 1) (hn : n ≤ 100000) (hbase : base ≤ w0.heap.size)
    (h : ∀ g' c' w', w'.ownsRow base 52 1 (.slice (some ⟨g', 0, none⟩) (n + 1) c') (n + 1) (xs ++ [p]) → (w0.alloc (.cells #[p] 52)).grownBy w' v.ownBlock → (v.ownBlock = some g' ∨ w0.heap.size < g') → wpList Yba.prog ops Q rest (a.put o.dst (.slice (some ⟨g', 0, none⟩) (n + 1) c')) w') :
    wpList Yba.prog ops Q (o :: rest) a (w0.alloc (.cells #[p] 52)) := by
  subst hg
  refine wpList_plain hgd fun K hK => ?_
  obtain ⟨v', w', hr, h2, h3, g', c', rfl, h4⟩ := run_append_acct (w0.alloc (.cells #[p] 52)) base o.type v n xs (hown.alloc _) ⟨w0.heap.size, 0, none⟩ p hp (cell_one_new w0 p 52) hn (by simp; omega)
  unfold Oper.wp execOp
  simp only [ho, resolve, invoke, builtin, Sem.run_bind, Sem.run_pure, Result.andThen_ok, List.map_toArray, List.map_cons, List.map_nil, hs, hx, hr]
  refine hK _ _ (h g' c' w' h2 h3 ?_)
  rcases h4 with h4 | h4
  · exact .inl h4
  · right; simp at h4; omega
end Go.Proofs.Ybulkdbbo
