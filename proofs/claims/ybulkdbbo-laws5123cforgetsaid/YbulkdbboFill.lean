/-
  The pool while LawS5123CForget fills it, step by step.
-/
import Derived.Test.YbulkdbboGrow
namespace Go.Proofs.Ybulkdbbo
open Go.RowKit Go.Lib

/-- The law's data, and where its blocks lie. -/
structure Dt where
  n : Nat
  nn : Nat → Int
  bl : Nat → Int
  bh : Nat → Int
  fr : Nat → Int
  cg : Nat → Bool
  S : Nat → ByteArray
  r : Nat
  p : Nat
  ba : Nat
  B : Nat

def Dt.Cs (d : Dt) (k : Nat) : List Nat := (List.range k).filter d.cg
theorem Dt.Cs_yes (d : Dt) (k : Nat) (h : d.cg k = true) : d.Cs (k + 1) = d.Cs k ++ [k] := by simp [Dt.Cs, List.range_succ, List.filter_append, h]
theorem Dt.Cs_no (d : Dt) (k : Nat) (h : d.cg k = false) : d.Cs (k + 1) = d.Cs k := by simp [Dt.Cs, List.range_succ, List.filter_append, h]
theorem Dt.Cs_le (d : Dt) (k : Nat) : (d.Cs k).length ≤ k := by
  have := List.length_filter_le d.cg (List.range k)
  simpa [Dt.Cs] using this
theorem Dt.Cs_lt (d : Dt) (k x : Nat) (h : x ∈ d.Cs k) : x < k := by
  have := (List.mem_filter.1 h).1
  simpa using this

structure Lies (d : Dt) (w0 : World) : Prop where
  r : w0.heap.size ≤ d.r
  p : d.r < d.p
  ba : d.p < d.ba
  B : d.ba < d.B

/-- ac accounts made, na of them in 'accts', nm in the map, nk in kept, those below nc in changed. -/
structure G (d : Dt) (w0 : World) (A : Nat → Nat) (ac na nm nk nc : Nat) (mk : Nat → Bool) (pf : Nat → Int) (kv cv : Value) (w : World) : Prop where
  pb : PB d.p d.r w kv cv
  mb : w.heap[d.r]? = some (.map (ents A d.S (List.range nm)) nm)
  ab : AB d.ba d.n na A w
  cb : ∀ x, x < ac → AcctIs w (A x) (d.S x) (d.nn x) (d.bl x) (d.bh x) x (mk x) (pf x)
  ok : w.ownsRow d.B 52 1 kv nk ((List.range nk).map (ptrA A))
  oc : w.ownsRow d.B 52 1 cv (d.Cs nc).length ((d.Cs nc).map (ptrA A))
  Ab : ∀ x, x < ac → d.B ≤ A x
  Ai : ∀ x y, x < ac → y < ac → A x = A y → x = y
  Ak : ∀ x g, x < ac → kv.ownBlock = some g → A x ≠ g
  Ac : ∀ x g, x < ac → cv.ownBlock = some g → A x ≠ g
  kc : ∀ g g', kv.ownBlock = some g → cv.ownBlock = some g' → g ≠ g'
  bel : Below w0.heap.size w0 w
  sz : d.B ≤ w.heap.size

section
variable {d : Dt} {w0 w : World} {A : Nat → Nat} {ac na nm nk nc : Nat} {mk : Nat → Bool} {pf : Nat → Int} {kv cv : Value}

theorem G.later {w' : World} (h : G d w0 A ac na nm nk nc mk pf kv cv w) (l : Lies d w0) (hb : Below w.heap.size w w') : G d w0 A ac na nm nk nc mk pf kv cv w' := by
  have sz := h.sz
  have lr := l.r; have lp := l.p; have lb := l.ba; have lB := l.B
  refine ⟨h.pb.same (hb.block _ (by omega)), (hb.block _ (by omega)).trans h.mb, h.ab.same (hb.block _ (by omega)), fun x hx => (h.cb x hx).same (hb.block _ (cell_lt (h.cb x hx).c0)),
    ownsRow_same h.ok (fun g hg => hb.block _ (h.ok.lt g hg).2), ownsRow_same h.oc (fun g hg => hb.block _ (h.oc.lt g hg).2), h.Ab, h.Ai, h.Ak, h.Ac, h.kc, h.bel.trans (hb.mono h.bel.size), Nat.le_trans sz hb.size⟩
theorem G.drew (h : G d w0 A ac na nm nk nc mk pf kv cv w) : G d w0 A ac na nm nk nc mk pf kv cv w.drew :=
  ⟨h.pb.same rfl, h.mb, h.ab.same rfl, fun x hx => (h.cb x hx).same rfl, h.ok, h.oc, h.Ab, h.Ai, h.Ak, h.Ac, h.kc, h.bel.drew, h.sz⟩

/-- A new account. -/
theorem G.fresh {k : Nat} (h : G d w0 A k k k k k mk pf kv cv w) {b' : Nat} (hb : d.B ≤ b') (hl : ∀ x, x < k → A x ≠ b') (hk : ∀ g, kv.ownBlock = some g → b' ≠ g) (hc : ∀ g, cv.ownBlock = some g → b' ≠ g)
    (ha : AcctIs w b' (d.S k) (d.nn k) (d.bl k) (d.bh k) k false 0) :
    G d w0 (fun x => if x = k then b' else A x) (k + 1) k k k k (fun x => if x = k then false else mk x) (fun x => if x = k then 0 else pf x) kv cv w := by
  have e : ∀ x, x < k → (fun x => if x = k then b' else A x) x = A x := fun x hx => by show (if x = k then b' else A x) = A x; rw [if_neg (by omega)]
  have e1 : ents (fun x => if x = k then b' else A x) d.S (List.range k) = ents A d.S (List.range k) := by
    have : (List.range k).map (entry (fun x => if x = k then b' else A x) d.S) = (List.range k).map (entry A d.S) := List.map_congr_left (fun x hx => by unfold entry; rw [e x (by simpa using hx)])
    unfold ents
    rw [this]
  have e2 : (List.range k).map (ptrA (fun x => if x = k then b' else A x)) = (List.range k).map (ptrA A) := List.map_congr_left (fun x hx => by unfold ptrA; rw [e x (by simpa using hx)])
  have e3 : (d.Cs k).map (ptrA (fun x => if x = k then b' else A x)) = (d.Cs k).map (ptrA A) := List.map_congr_left (fun x hx => by unfold ptrA; rw [e x (d.Cs_lt k x hx)])
  refine ⟨h.pb, by rw [e1]; exact h.mb, ⟨fun x hx => ?_, h.ab.room⟩, fun x hx => ?_, by rw [e2]; exact h.ok, by rw [e3]; exact h.oc, fun x hx => ?_, fun x y hx hy q => ?_, fun x g hx hg => ?_, fun x g hx hg => ?_, h.kc, h.bel, h.sz⟩
  · have := h.ab.put x hx
    unfold ptrA at this ⊢
    rw [e x hx]; exact this
  · by_cases q : x = k
    · subst q; simpa using ha
    · simp only [if_neg q]; exact h.cb x (by omega)
  · by_cases q : x = k
    · simp only [if_pos q]; exact hb
    · simp only [if_neg q]; exact h.Ab x (by omega)
  · by_cases q1 : x = k
    · by_cases q2 : y = k
      · omega
      · simp only [if_pos q1, if_neg q2] at q
        exact absurd q.symm (hl y (by omega))
    · by_cases q2 : y = k
      · simp only [if_neg q1, if_pos q2] at q
        exact absurd q (hl x (by omega))
      · simp only [if_neg q1, if_neg q2] at q
        exact h.Ai x y (by omega) (by omega) q
  · by_cases q : x = k
    · simp only [if_pos q]; exact hk g hg
    · simp only [if_neg q]; exact h.Ak x g (by omega) hg
  · by_cases q : x = k
    · simp only [if_pos q]; exact hc g hg
    · simp only [if_neg q]; exact h.Ac x g (by omega) hg

/-- 'accts[i] = a'. -/
theorem G.put (h : G d w0 A ac na nm nk nc mk pf kv cv w) (l : Lies d w0) (hn : na < d.n) : G d w0 A ac (na + 1) nm nk nc mk pf kv cv (w.setCell ⟨d.ba, na, none⟩ (ptrA A na)) := by
  have lr := l.r; have lp := l.p; have lb := l.ba; have lB := l.B
  have e : ∀ k, k ≠ d.ba → (w.setCell ⟨d.ba, na, none⟩ (ptrA A na)).heap[k]? = w.heap[k]? := fun k hk => block_set w ⟨d.ba, na, none⟩ _ k hk
  refine ⟨h.pb.same (e _ (by omega)), (e _ (by omega)).trans h.mb, h.ab.set hn, fun x hx => (h.cb x hx).same (e _ (by have := h.Ab x hx; omega)),
    ownsRow_same h.ok (fun g hg => e _ (by have := (h.ok.lt g hg).1; omega)), ownsRow_same h.oc (fun g hg => e _ (by have := (h.oc.lt g hg).1; omega)), h.Ab, h.Ai, h.Ak, h.Ac, h.kc, h.bel.setCell (p := ⟨d.ba, na, none⟩) (by show _ ≤ d.ba; omega) _, by simpa using h.sz⟩

/-- 'p.accounts[a.sender] = a'. -/
theorem G.map (h : G d w0 A ac na nm nk nc mk pf kv cv w) (l : Lies d w0) : G d w0 A ac na (nm + 1) nk nc mk pf kv cv (putMap w d.r (ents A d.S (List.range nm ++ [nm])) (nm + 1)) := by
  have lr := l.r; have lp := l.p; have lb := l.ba; have lB := l.B
  have sz := h.sz
  have e : ∀ k, k ≠ d.r → (putMap w d.r (ents A d.S (List.range nm ++ [nm])) (nm + 1)).heap[k]? = w.heap[k]? := fun k hk => putMap_other w d.r _ _ k hk
  have hsz : (putMap w d.r (ents A d.S (List.range nm ++ [nm])) (nm + 1)).heap.size = w.heap.size := by simp [putMap]
  refine ⟨h.pb.same (e _ (by omega)), by rw [putMap_same w d.r _ _ (by omega), List.range_succ], h.ab.same (e _ (by omega)), fun x hx => (h.cb x hx).same (e _ (by have := h.Ab x hx; omega)),
    ownsRow_same h.ok (fun g hg => e _ (by have := (h.ok.lt g hg).1; omega)), ownsRow_same h.oc (fun g hg => e _ (by have := (h.oc.lt g hg).1; omega)), h.Ab, h.Ai, h.Ak, h.Ac, h.kc, h.bel.trans ⟨rfl, rfl, rfl, Nat.le_of_eq hsz.symm, fun k hk => e k (by omega)⟩, by rw [hsz]; exact sz⟩

/-- 'p.kept = append(p.kept, a)'. -/
theorem G.keep {w' : World} {g' c' : Nat} {o : Obj} (h : G d w0 A ac na nm nk nc mk pf kv cv w) (l : Lies d w0)
    (ho : w'.ownsRow d.B 52 1 (.slice (some ⟨g', 0, none⟩) (nk + 1) c') (nk + 1) ((List.range nk).map (ptrA A) ++ [ptrA A nk])) (hg : (w.alloc o).grownBy w' kv.ownBlock) (hf : kv.ownBlock = some g' ∨ w.heap.size < g') :
    G d w0 A ac na nm (nk + 1) nc mk pf (.slice (some ⟨g', 0, none⟩) (nk + 1) c') cv (w'.setCell ⟨d.p, 11, none⟩ (.slice (some ⟨g', 0, none⟩) (nk + 1) c')) := by
  have lr := l.r; have lp := l.p; have lb := l.ba; have lB := l.B
  have sz := h.sz
  have hk : ∀ g, kv.ownBlock = some g → d.B ≤ g := fun g hg => (h.ok.lt g hg).1
  have eg : ∀ k, k < w.heap.size → (∀ g, kv.ownBlock = some g → k ≠ g) → w'.heap[k]? = w.heap[k]? := fun k hk' hne => (hg.block k (by simp; omega) (fun e => hne k e.symm rfl)).trans (Below.heap_alloc w o k hk')
  have e : ∀ k, k < w.heap.size → k ≠ d.p → (∀ g, kv.ownBlock = some g → k ≠ g) → (w'.setCell ⟨d.p, 11, none⟩ (.slice (some ⟨g', 0, none⟩) (nk + 1) c')).heap[k]? = w.heap[k]? := fun k h1 h2 h3 => (block_set w' ⟨d.p, 11, none⟩ _ k h2).trans (eg k h1 h3)
  have hgp : ∀ g, (Value.slice (some ⟨g', 0, none⟩) (nk + 1) c').ownBlock = some g → g = g' := fun g hg => by simpa [Value.ownBlock] using hg.symm
  have hgB : d.B ≤ g' := by
    rcases hf with q | q
    · exact hk _ q
    · omega
  have pb1 := (h.pb.same (eg d.p (by omega) (fun g hg => by have := hk g hg; omega))).setKept (.slice (some ⟨g', 0, none⟩) (nk + 1) c')
  refine ⟨pb1, (e _ (by omega) (by omega) (fun g hg => by have := hk g hg; omega)).trans h.mb, h.ab.same (e _ (by omega) (by omega) (fun g hg => by have := hk g hg; omega)), fun x hx => (h.cb x hx).same (e _ (cell_lt (h.cb x hx).c0) (by have := h.Ab x hx; omega) (fun g hg => h.Ak x g hx hg)),
    ?_, ownsRow_same h.oc (fun g hg => e _ (h.oc.lt g hg).2 (by have := (h.oc.lt g hg).1; omega) (fun g2 hg2 => Ne.symm (h.kc g2 g hg2 hg))), h.Ab, h.Ai, fun x g hx hg => ?_, h.Ac, fun g g2 hg hg2 => ?_, ?_, ?_⟩
  · rw [List.range_succ, List.map_append]
    exact ownsRow_same ho (fun g hg => block_set w' ⟨d.p, 11, none⟩ _ g (by show g ≠ d.p; have := hgp g hg; omega))
  · rw [hgp g hg]
    rcases hf with q | q
    · exact h.Ak x g' hx q
    · have := cell_lt (h.cb x hx).c0; omega
  · rw [hgp g hg]
    rcases hf with q | q
    · exact h.kc g' g2 q hg2
    · have := (h.oc.lt g2 hg2).2; omega
  · refine (h.bel.trans ?_).setCell (p := ⟨d.p, 11, none⟩) (by show _ ≤ d.p; omega) _
    refine ⟨hg.os, hg.tape, hg.output, Nat.le_trans (by simp) hg.size, fun k hk' => eg k (by have := h.bel.size; omega) (fun g hg => by have := hk g hg; omega)⟩
  · have := hg.size; simp at this ⊢; omega

/-- A store into account y. -/
theorem G.acct {y : Nat} {a : Addr} {v : Value} {mk' : Nat → Bool} {pf' : Nat → Int} (h : G d w0 A ac na nm nk nc mk pf kv cv w) (l : Lies d w0) (hy : y < ac) (ha : a.block = A y)
    (hn : AcctIs (w.setCell a v) (A y) (d.S y) (d.nn y) (d.bl y) (d.bh y) y (mk' y) (pf' y)) (hm : ∀ x, x ≠ y → mk' x = mk x ∧ pf' x = pf x) : G d w0 A ac na nm nk nc mk' pf' kv cv (w.setCell a v) := by
  have lr := l.r; have lp := l.p; have lb := l.ba; have lB := l.B
  have sz := h.sz
  have hB := h.Ab y hy
  have e : ∀ k, k ≠ A y → (w.setCell a v).heap[k]? = w.heap[k]? := fun k hk => block_set w a v k (by rw [ha]; exact hk)
  refine ⟨h.pb.same (e _ (by omega)), (e _ (by omega)).trans h.mb, h.ab.same (e _ (by omega)), fun x hx => ?_,
    ownsRow_same h.ok (fun g hg => e _ (Ne.symm (h.Ak y g hy hg))), ownsRow_same h.oc (fun g hg => e _ (Ne.symm (h.Ac y g hy hg))), h.Ab, h.Ai, h.Ak, h.Ac, h.kc, h.bel.setCell (by rw [ha]; have := h.bel.size; omega) _, by simpa using sz⟩
  by_cases q : x = y
  · subst q; exact hn
  · rw [(hm x q).1, (hm x q).2]
    exact (h.cb x hx).same (e _ (fun k => q (h.Ai x y hx hy k)))

/-- 'p.changed = append(p.changed, a)'. -/
theorem G.note {w' : World} {g' c' : Nat} {o : Obj} (h : G d w0 A ac na nm nk nc mk pf kv cv w) (l : Lies d w0) (hcg : d.cg nc = true)
    (ho : w'.ownsRow d.B 52 1 (.slice (some ⟨g', 0, none⟩) ((d.Cs nc).length + 1) c') ((d.Cs nc).length + 1) ((d.Cs nc).map (ptrA A) ++ [ptrA A nc])) (hg : (w.alloc o).grownBy w' cv.ownBlock) (hf : cv.ownBlock = some g' ∨ w.heap.size < g') :
    G d w0 A ac na nm nk (nc + 1) mk pf kv (.slice (some ⟨g', 0, none⟩) ((d.Cs nc).length + 1) c') (w'.setCell ⟨d.p, 29, none⟩ (.slice (some ⟨g', 0, none⟩) ((d.Cs nc).length + 1) c')) := by
  have lr := l.r; have lp := l.p; have lb := l.ba; have lB := l.B
  have sz := h.sz
  have hk : ∀ g, cv.ownBlock = some g → d.B ≤ g := fun g hg => (h.oc.lt g hg).1
  have eg : ∀ k, k < w.heap.size → (∀ g, cv.ownBlock = some g → k ≠ g) → w'.heap[k]? = w.heap[k]? := fun k hk' hne => (hg.block k (by simp; omega) (fun e => hne k e.symm rfl)).trans (Below.heap_alloc w o k hk')
  have e : ∀ k, k < w.heap.size → k ≠ d.p → (∀ g, cv.ownBlock = some g → k ≠ g) → (w'.setCell ⟨d.p, 29, none⟩ (.slice (some ⟨g', 0, none⟩) ((d.Cs nc).length + 1) c')).heap[k]? = w.heap[k]? := fun k h1 h2 h3 => (block_set w' ⟨d.p, 29, none⟩ _ k h2).trans (eg k h1 h3)
  have hgp : ∀ g, (Value.slice (some ⟨g', 0, none⟩) ((d.Cs nc).length + 1) c').ownBlock = some g → g = g' := fun g hg => by simpa [Value.ownBlock] using hg.symm
  have hgB : d.B ≤ g' := by
    rcases hf with q | q
    · exact hk _ q
    · omega
  have pb1 := (h.pb.same (eg d.p (by omega) (fun g hg => by have := hk g hg; omega))).setCh (.slice (some ⟨g', 0, none⟩) ((d.Cs nc).length + 1) c')
  refine ⟨pb1, (e _ (by omega) (by omega) (fun g hg => by have := hk g hg; omega)).trans h.mb, h.ab.same (e _ (by omega) (by omega) (fun g hg => by have := hk g hg; omega)), fun x hx => (h.cb x hx).same (e _ (cell_lt (h.cb x hx).c0) (by have := h.Ab x hx; omega) (fun g hg => h.Ac x g hx hg)),
    ownsRow_same h.ok (fun g hg => e _ (h.ok.lt g hg).2 (by have := (h.ok.lt g hg).1; omega) (fun g2 hg2 => h.kc g g2 hg hg2)), ?_, h.Ab, h.Ai, h.Ak, fun x g hx hg => ?_, fun g g2 hg hg2 => ?_, ?_, ?_⟩
  · rw [d.Cs_yes nc hcg, List.map_append, List.length_append]
    exact ownsRow_same ho (fun g hg => block_set w' ⟨d.p, 29, none⟩ _ g (by show g ≠ d.p; have := hgp g hg; omega))
  · rw [hgp g hg]
    rcases hf with q | q
    · exact h.Ac x g' hx q
    · have := cell_lt (h.cb x hx).c0; omega
  · rw [hgp g2 hg2]
    rcases hf with q | q
    · exact h.kc g g' hg q
    · have := (h.ok.lt g hg).2; omega
  · refine (h.bel.trans ?_).setCell (p := ⟨d.p, 29, none⟩) (by show _ ≤ d.p; omega) _
    refine ⟨hg.os, hg.tape, hg.output, Nat.le_trans (by simp) hg.size, fun k hk' => eg k (by have := h.bel.size; omega) (fun g hg => by have := hk g hg; omega)⟩
  · have := hg.size; simp at this ⊢; omega

/-- An account that is not noted. -/
theorem G.pass (h : G d w0 A ac na nm nk nc mk pf kv cv w) (hcg : d.cg nc = false) : G d w0 A ac na nm nk (nc + 1) mk pf kv cv w :=
  ⟨h.pb, h.mb, h.ab, h.cb, h.ok, by rw [d.Cs_no nc hcg]; exact h.oc, h.Ab, h.Ai, h.Ak, h.Ac, h.kc, h.bel, h.sz⟩
theorem G.marks {mk' : Nat → Bool} {pf' : Nat → Int} (h : G d w0 A ac na nm nk nc mk pf kv cv w) (hm : ∀ x, x < ac → mk' x = mk x ∧ pf' x = pf x) : G d w0 A ac na nm nk nc mk' pf' kv cv w :=
  ⟨h.pb, h.mb, h.ab, fun x hx => by rw [(hm x hx).1, (hm x hx).2]; exact h.cb x hx, h.ok, h.oc, h.Ab, h.Ai, h.Ak, h.Ac, h.kc, h.bel, h.sz⟩
end
end Go.Proofs.Ybulkdbbo
