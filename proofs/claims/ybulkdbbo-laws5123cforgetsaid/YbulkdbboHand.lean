/-
  LawS5123CForget: the filled pool, as placeChanged wants it.
-/
import Derived.Test.YbulkdbboRound
namespace Go.Proofs.Ybulkdbbo
open Go.RowKit Go.Lib

theorem row_parts {w : World} {base : Nat} {v : Value} {m : Nat} {xs : List Value} (h : w.ownsRow base 52 1 v m xs) (e : Nat) :
    ∃ ka g ck, v = .slice ka m ck ∧ (0 < m → ka = some ⟨g, 0, none⟩) ∧ m ≤ ck ∧ (∀ j u, xs[j]? = some u → w.cell? ⟨g, j, none⟩ = some u ∧ w.frozen? ⟨g, j, none⟩ = false) ∧ (v.ownBlock = some g ∨ (v.ownBlock = none ∧ g = e)) := by
  obtain ⟨hl, hr⟩ := h
  rcases hr with ⟨rfl, rfl⟩ | ⟨g, cap, cur, rfl, hb, hg, hnc, hcm, hcs, ht⟩
  · have : xs = [] := by cases xs with | nil => rfl | cons a l => simp at hl
    subst this
    exact ⟨none, e, 0, rfl, fun h => absurd h (by omega), Nat.le_refl _, fun j u hu => by simp at hu, .inr ⟨rfl, rfl⟩⟩
  · refine ⟨_, g, cap, rfl, fun _ => rfl, hnc, fun j u hu => ⟨?_, ?_⟩, .inl rfl⟩
    · rw [cell_of_row w g j cur 52 (0, 0) hg]
      rw [← ht, List.getElem?_take] at hu
      split at hu
      · simpa using hu
      · simp at hu
    · simp [World.frozen?, hg]

section
variable {n : Nat} {nn bl bh fr : Nat → Int} {cg : Nat → Bool} {w0 w : World} {A : Nat → Nat} {kv cv : Value}

theorem G.toPl (h : G (dat n nn bl bh fr cg w0) w0 A n n n n n cg (frp fr cg) kv cv w) (hn : n ≤ 1024) (hz : (dat n nn bl bh fr cg w0).Cs n = [] → cv = .slice none 0 0) (s : Nat)
    (hs3 : w0.heap.size + 1 + 1 + 1 ≤ s) (hsw : s ≤ w.heap.size) (hsk : ∀ g, kv.ownBlock = some g → g < s) (hsc : ∀ g, cv.ownBlock = some g → g < s) (hsA : ∀ x, x < n → A x < s) :
    ∃ c : Cfg, Apart c ∧ Pl c w (st0 n) cg ∧ c.n = n ∧ c.A = A ∧ c.p = w0.heap.size + 1 ∧ c.r = w0.heap.size ∧ c.nn = nn ∧ c.bl = bl ∧ c.bh = bh ∧ c.S = name ∧ c.C = (List.range n).filter cg ∧
      (∀ k, k < w.heap.size → (k < w0.heap.size ∨ k = w0.heap.size + 1 + 1 ∨ s ≤ k) → k ≠ c.p ∧ k ≠ c.r ∧ k ≠ c.gk ∧ k ≠ c.gc ∧ ∀ x, x < c.n → k ≠ c.A x) := by
  obtain ⟨ka, gk, ck, ek, k1, k2, k3, k4⟩ := row_parts h.ok (w.heap.size + 7)
  obtain ⟨ca, gc, cc, ec, c1, c2, c3, c4⟩ := row_parts h.oc (w.heap.size + 9)
  have hkb : w0.heap.size + 1 + 1 + 1 ≤ gk ∧ (gk < s ∨ gk = w.heap.size + 7) := by
    rcases k4 with k4 | ⟨_, k4⟩
    · exact ⟨(h.ok.lt gk k4).1, .inl (hsk gk k4)⟩
    · omega
  have hcb : w0.heap.size + 1 + 1 + 1 ≤ gc ∧ (gc < s ∨ gc = w.heap.size + 9) := by
    rcases c4 with c4 | ⟨_, c4⟩
    · exact ⟨(h.oc.lt gc c4).1, .inl (hsc gc c4)⟩
    · omega
  have hkc : gk ≠ gc := by
    rcases k4 with k4 | ⟨_, k4⟩
    · rcases c4 with c4 | ⟨_, c4⟩
      · exact h.kc gk gc k4 c4
      · have := hsk gk k4; omega
    · rcases c4 with c4 | ⟨_, c4⟩
      · have := hsc gc c4; omega
      · omega
  have hAB : ∀ x, x < n → w0.heap.size + 1 + 1 + 1 ≤ A x := fun x hx => h.Ab x hx
  have hAk : ∀ x, x < n → A x ≠ gk := fun x hx => by
    rcases k4 with k4 | ⟨_, k4⟩
    · exact h.Ak x gk hx k4
    · have := hsA x hx; omega
  have hAc : ∀ x, x < n → A x ≠ gc := fun x hx => by
    rcases c4 with c4 | ⟨_, c4⟩
    · exact h.Ac x gc hx c4
    · have := hsA x hx; omega
  have hC : (dat n nn bl bh fr cg w0).Cs n = (List.range n).filter cg := rfl
  rw [hC] at c1 c2 c3 ec hz
  refine ⟨⟨n, A, w0.heap.size + 1, w0.heap.size, ka, gk, ck, ca, gc, cc, nn, bl, bh, frp fr cg, name, (List.range n).filter cg⟩, ?_, ?_, rfl, rfl, rfl, rfl, rfl, rfl, rfl, rfl, rfl, ?_⟩
  · refine ⟨fun x y hx hy e => h.Ai x y hx hy e, fun x y hx hy e => name_inj x y (Nat.lt_of_lt_of_le hx hn) (Nat.lt_of_lt_of_le hy hn) e, Nat.succ_ne_self _, ?_, ?_, ?_, ?_, hkc, fun x hx => ?_, fun x hx => ?_, hAk, hAc, List.nodup_range.filter _, fun x hx => ?_, hn, k2, k1, c1, fun e => ?_, c2⟩
    · show w0.heap.size + 1 ≠ gk; omega
    · show w0.heap.size + 1 ≠ gc; omega
    · show w0.heap.size ≠ gk; omega
    · show w0.heap.size ≠ gc; omega
    · show A x ≠ w0.heap.size + 1; have := hAB x hx; omega
    · show A x ≠ w0.heap.size; have := hAB x hx; omega
    · have := (List.mem_filter.1 hx).1
      simpa using this
    · have e' : (List.range n).filter cg = [] := List.length_eq_zero_iff.1 e
      have := hz e'
      rw [ec] at this
      injection this with q1 q2 q3
      exact ⟨q1, q3⟩
  · have pk : w.cell? ⟨w0.heap.size + 1, 11, none⟩ = some (.slice ka (st0 n).K.length ck) := by
      have := h.keptAt
      rw [ek] at this
      rw [this]; simp [st0]
    have pc : w.cell? ⟨w0.heap.size + 1, 29, none⟩ = some (.slice ca ((List.range n).filter cg).length cc) := by
      have := h.chAt
      rw [ec] at this
      exact this
    refine ⟨h.pb.m, pk, pc, h.pb.fee0, h.pb.fee1, h.pb.fee2, h.pb.fee3, h.pb.s1, h.pb.s2, h.pb.s3, h.pb.s4, h.pb.f11, h.pb.f29, ⟨n, h.mb⟩, fun j hj => ?_, fun t ht => ?_, fun x hx => h.cb x hx⟩
    · have hj' : j < n := by simpa [st0] using hj
      refine k3 j _ ?_
      simp [st0, ptrA, hj', List.getD]
    · have ht' : t < ((List.range n).filter cg).length := ht
      refine c3 t _ ?_
      rw [List.getElem?_map, List.getElem?_eq_getElem ht']
      show some (ptrA A _) = some (.pointer (some ⟨A (((List.range n).filter cg).getD t 0), 0, none⟩))
      simp [ptrA, List.getD, List.getElem?_eq_getElem ht']
  · intro k hk hor
    refine ⟨?_, ?_, ?_, ?_, fun x hx => ?_⟩
    · show k ≠ w0.heap.size + 1; omega
    · show k ≠ w0.heap.size; omega
    · show k ≠ gk; omega
    · show k ≠ gc; omega
    · show k ≠ A x
      have := hAB x hx; have := hsA x hx; omega
end
end Go.Proofs.Ybulkdbbo
