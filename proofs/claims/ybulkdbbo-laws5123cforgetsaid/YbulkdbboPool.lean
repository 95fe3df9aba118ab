/-
  The pool in memory, and what each step of placeChanged does to it.
-/
import Derived.Test.YbulkdbboKept
namespace Go.Proofs.Ybulkdbbo
open Go.RowKit Go.Lib

structure Cfg where
  n : Nat
  A : Nat → Nat
  p : Nat
  r : Nat
  ka : Option Addr
  gk : Nat
  ck : Nat
  ca : Option Addr
  gc : Nat
  cc : Nat
  nn : Nat → Int
  bl : Nat → Int
  bh : Nat → Int
  fr : Nat → Int
  S : Nat → ByteArray
  C : List Nat

/-- What stands apart, and how large it is. -/
structure Apart (c : Cfg) : Prop where
  inj : ∀ x y, x < c.n → y < c.n → c.A x = c.A y → x = y
  names : ∀ x y, x < c.n → y < c.n → c.S x = c.S y → x = y
  pr : c.p ≠ c.r
  pk : c.p ≠ c.gk
  pc : c.p ≠ c.gc
  rk : c.r ≠ c.gk
  rc : c.r ≠ c.gc
  kc : c.gk ≠ c.gc
  ap : ∀ x, x < c.n → c.A x ≠ c.p
  ar : ∀ x, x < c.n → c.A x ≠ c.r
  ak : ∀ x, x < c.n → c.A x ≠ c.gk
  ac : ∀ x, x < c.n → c.A x ≠ c.gc
  cn : c.C.Nodup
  cl : ∀ x ∈ c.C, x < c.n
  small : c.n ≤ 1024
  room : c.n ≤ c.ck
  ka : 0 < c.n → c.ka = some ⟨c.gk, 0, none⟩
  ca : 0 < c.C.length → c.ca = some ⟨c.gc, 0, none⟩
  cz : c.C.length = 0 → c.ca = none ∧ c.cc = 0
  cr : c.C.length ≤ c.cc

/-- An account in memory. -/
structure AcctIs (w : World) (b : Nat) (s : ByteArray) (nn bl bh : Int) (k : Nat) (h : Bool) (fr : Int) : Prop where
  c0 : w.cell? ⟨b, 0, none⟩ = some (.string s)
  c1 : w.cell? ⟨b, 1, none⟩ = some (.int .u64 nn)
  c2 : w.cell? ⟨b, 2, none⟩ = some (.int .u64 bl)
  c3 : w.cell? ⟨b, 3, none⟩ = some (.int .u64 0)
  c4 : w.cell? ⟨b, 4, none⟩ = some (.int .u64 0)
  c5 : w.cell? ⟨b, 5, none⟩ = some (.int .u64 bh)
  c6 : w.cell? ⟨b, 6, none⟩ = some (.slice none 0 0)
  c8 : w.cell? ⟨b, 8, none⟩ = some (.int .i64 k)
  c9 : w.cell? ⟨b, 9, none⟩ = some (.bool h)
  c10 : w.cell? ⟨b, 10, none⟩ = some (.int .u64 fr)
  f8 : w.frozen? ⟨b, 8, none⟩ = false
  f9 : w.frozen? ⟨b, 9, none⟩ = false
  f10 : w.frozen? ⟨b, 10, none⟩ = false

theorem AcctIs.same {w w' : World} {b : Nat} {s : ByteArray} {nn bl bh fr : Int} {k : Nat} {h : Bool} (a : AcctIs w b s nn bl bh k h fr) (e : w'.heap[b]? = w.heap[b]?) : AcctIs w' b s nn bl bh k h fr := by
  have hc : ∀ o, w'.cell? ⟨b, o, none⟩ = w.cell? ⟨b, o, none⟩ := fun o => World.cell?_of_block (w := w) (a := ⟨b, o, none⟩) e
  have hf : ∀ o, w'.frozen? ⟨b, o, none⟩ = w.frozen? ⟨b, o, none⟩ := fun o => World.frozen?_of_block (w := w) (a := ⟨b, o, none⟩) e
  exact ⟨(hc _).trans a.c0, (hc _).trans a.c1, (hc _).trans a.c2, (hc _).trans a.c3, (hc _).trans a.c4, (hc _).trans a.c5, (hc _).trans a.c6, (hc _).trans a.c8, (hc _).trans a.c9, (hc _).trans a.c10, (hf _).trans a.f8, (hf _).trans a.f9, (hf _).trans a.f10⟩

theorem set_far (w : World) (b o o' : Nat) (v : Value) (h : o ≠ o') : (w.setCell ⟨b, o, none⟩ v).cell? ⟨b, o', none⟩ = w.cell? ⟨b, o', none⟩ :=
  World.cell?_setCell_other w _ _ _ (by intro c; injection c with c1 c2; omega)

theorem AcctIs.mark {w : World} {b : Nat} {s : ByteArray} {nn bl bh fr : Int} {k : Nat} {h : Bool} (a : AcctIs w b s nn bl bh k h fr) (h' : Bool) : AcctIs (w.setCell ⟨b, 9, none⟩ (.bool h')) b s nn bl bh k h' fr :=
  ⟨(set_far w b 9 0 _ (by omega)).trans a.c0, (set_far w b 9 1 _ (by omega)).trans a.c1, (set_far w b 9 2 _ (by omega)).trans a.c2, (set_far w b 9 3 _ (by omega)).trans a.c3, (set_far w b 9 4 _ (by omega)).trans a.c4, (set_far w b 9 5 _ (by omega)).trans a.c5, (set_far w b 9 6 _ (by omega)).trans a.c6, (set_far w b 9 8 _ (by omega)).trans a.c8, World.cell?_setCell_same w _ _ a.c9, (set_far w b 9 10 _ (by omega)).trans a.c10, by simpa using a.f8, by simpa using a.f9, by simpa using a.f10⟩

theorem AcctIs.stand {w : World} {b : Nat} {s : ByteArray} {nn bl bh fr : Int} {k : Nat} {h : Bool} (a : AcctIs w b s nn bl bh k h fr) (k' : Nat) : AcctIs (w.setCell ⟨b, 8, none⟩ (.int .i64 k')) b s nn bl bh k' h fr :=
  ⟨(set_far w b 8 0 _ (by omega)).trans a.c0, (set_far w b 8 1 _ (by omega)).trans a.c1, (set_far w b 8 2 _ (by omega)).trans a.c2, (set_far w b 8 3 _ (by omega)).trans a.c3, (set_far w b 8 4 _ (by omega)).trans a.c4, (set_far w b 8 5 _ (by omega)).trans a.c5, (set_far w b 8 6 _ (by omega)).trans a.c6, World.cell?_setCell_same w _ _ a.c8, (set_far w b 8 9 _ (by omega)).trans a.c9, (set_far w b 8 10 _ (by omega)).trans a.c10, by simpa using a.f8, by simpa using a.f9, by simpa using a.f10⟩

theorem AcctIs.from_ {w : World} {b : Nat} {s : ByteArray} {nn bl bh fr : Int} {k : Nat} {h : Bool} (a : AcctIs w b s nn bl bh k h fr) (fr' : Int) : AcctIs (w.setCell ⟨b, 10, none⟩ (.int .u64 fr')) b s nn bl bh k h fr' :=
  ⟨(set_far w b 10 0 _ (by omega)).trans a.c0, (set_far w b 10 1 _ (by omega)).trans a.c1, (set_far w b 10 2 _ (by omega)).trans a.c2, (set_far w b 10 3 _ (by omega)).trans a.c3, (set_far w b 10 4 _ (by omega)).trans a.c4, (set_far w b 10 5 _ (by omega)).trans a.c5, (set_far w b 10 6 _ (by omega)).trans a.c6, (set_far w b 10 8 _ (by omega)).trans a.c8, (set_far w b 10 9 _ (by omega)).trans a.c9, World.cell?_setCell_same w _ _ a.c10, by simpa using a.f8, by simpa using a.f9, by simpa using a.f10⟩

/-- The pool in memory: the plain state s, the marks h. -/
structure Pl (c : Cfg) (w : World) (s : St) (h : Nat → Bool) : Prop where
  m : w.cell? ⟨c.p, 10, none⟩ = some (.map (some c.r))
  kept : w.cell? ⟨c.p, 11, none⟩ = some (.slice c.ka s.K.length c.ck)
  ch : w.cell? ⟨c.p, 29, none⟩ = some (.slice c.ca c.C.length c.cc)
  fee0 : w.cell? ⟨c.p, 19, none⟩ = some (.int .u64 0)
  fee1 : w.cell? ⟨c.p, 20, none⟩ = some (.int .u64 0)
  fee2 : w.cell? ⟨c.p, 21, none⟩ = some (.int .u64 0)
  fee3 : w.cell? ⟨c.p, 22, none⟩ = some (.int .u64 0)
  s1 : w.cell? ⟨c.p, 23, none⟩ = some (.slice none 0 0)
  s2 : w.cell? ⟨c.p, 25, none⟩ = some (.slice none 0 0)
  s3 : w.cell? ⟨c.p, 27, none⟩ = some (.slice none 0 0)
  s4 : w.cell? ⟨c.p, 32, none⟩ = some (.int .u64 0)
  f11 : w.frozen? ⟨c.p, 11, none⟩ = false
  f29 : w.frozen? ⟨c.p, 29, none⟩ = false
  es : ∃ clk, w.heap[c.r]? = some (.map (ents c.A c.S s.L) clk)
  kc : ∀ j, j < s.K.length → w.cell? ⟨c.gk, j, none⟩ = some (.pointer (some ⟨c.A (s.K.getD j 0), 0, none⟩)) ∧ w.frozen? ⟨c.gk, j, none⟩ = false
  cch : ∀ t, t < c.C.length → w.cell? ⟨c.gc, t, none⟩ = some (.pointer (some ⟨c.A (c.C.getD t 0), 0, none⟩)) ∧ w.frozen? ⟨c.gc, t, none⟩ = false
  acc : ∀ x, x < c.n → AcctIs w (c.A x) (c.S x) (c.nn x) (c.bl x) (c.bh x) (s.f x) (h x) (c.fr x)

/-- Of the old blocks only the pool's own may have turned. -/
structure Fr (c : Cfg) (w w' : World) : Prop where
  os : w'.os = w.os
  tape : w'.tape = w.tape
  output : w'.output = w.output
  size : w.heap.size ≤ w'.heap.size
  block : ∀ k, k < w.heap.size → k ≠ c.p → k ≠ c.r → k ≠ c.gk → k ≠ c.gc → (∀ x, x < c.n → k ≠ c.A x) → w'.heap[k]? = w.heap[k]?

theorem Fr.refl (c : Cfg) (w : World) : Fr c w w := ⟨rfl, rfl, rfl, Nat.le_refl _, fun _ _ _ _ _ _ _ => rfl⟩
theorem Fr.trans {c : Cfg} {u v w : World} (h : Fr c u v) (k : Fr c v w) : Fr c u w :=
  ⟨k.os.trans h.os, k.tape.trans h.tape, k.output.trans h.output, Nat.le_trans h.size k.size, fun i hi a b d e f => (k.block i (Nat.lt_of_lt_of_le hi h.size) a b d e f).trans (h.block i hi a b d e f)⟩
theorem Fr.later {c : Cfg} {u v w : World} (h : Fr c u v) (k : Below v.heap.size v w) : Fr c u w :=
  h.trans ⟨k.os, k.tape, k.output, k.size, fun i hi _ _ _ _ _ => k.block i hi⟩
theorem Fr.set {c : Cfg} {u v : World} (h : Fr c u v) {a : Addr} (x : Value) (ha : a.block = c.p ∨ a.block = c.gk ∨ a.block = c.gc ∨ ∃ y, y < c.n ∧ a.block = c.A y) : Fr c u (v.setCell a x) :=
  h.trans ⟨rfl, rfl, rfl, by simp [World.setCell], fun k _ h1 _ h3 h4 h5 => block_set v a x k (by
    rcases ha with e | e | e | ⟨y, hy, e⟩
    · exact fun q => h1 (q.trans e)
    · exact fun q => h3 (q.trans e)
    · exact fun q => h4 (q.trans e)
    · exact fun q => h5 y hy (q.trans e))⟩
theorem Fr.drew {c : Cfg} {u v : World} (h : Fr c u v) : Fr c u v.drew := h.trans ⟨rfl, rfl, rfl, Nat.le_refl _, fun _ _ _ _ _ _ _ => rfl⟩
theorem Fr.drawn {c : Cfg} {u v : World} (h : Fr c u v) (n : Nat) : Fr c u (v.drewN n) := h.trans ⟨rfl, rfl, rfl, Nat.le_refl _, fun _ _ _ _ _ _ _ => rfl⟩
theorem putMap_other (w : World) (r : Nat) (es : Array MapEntry) (k i : Nat) (h : i ≠ r) : (putMap w r es k).heap[i]? = w.heap[i]? := by
  show (w.heap.setIfInBounds r _)[i]? = _
  rw [Array.getElem?_setIfInBounds, if_neg (Ne.symm h)]
theorem putMap_same (w : World) (r : Nat) (es : Array MapEntry) (k : Nat) (h : r < w.heap.size) : (putMap w r es k).heap[r]? = some (.map es k) := by
  show (w.heap.setIfInBounds r _)[r]? = _
  rw [Array.getElem?_setIfInBounds, if_pos rfl, if_pos h]
theorem Fr.map {c : Cfg} {u v : World} (h : Fr c u v) (es : Array MapEntry) (k : Nat) : Fr c u (putMap v c.r es k) :=
  h.trans ⟨rfl, rfl, rfl, by simp [putMap], fun i _ _ h2 _ _ _ => putMap_other v c.r es k i h2⟩

theorem cell_some_block {w w' : World} {b o : Nat} {v : Value} (h : w.cell? ⟨b, o, none⟩ = some v) (e : w'.heap[b]? = w.heap[b]?) : w'.cell? ⟨b, o, none⟩ = some v :=
  (World.cell?_of_block (w := w) (a := ⟨b, o, none⟩) e).trans h
theorem frozen_block {w w' : World} {b o : Nat} (h : w.frozen? ⟨b, o, none⟩ = false) (e : w'.heap[b]? = w.heap[b]?) : w'.frozen? ⟨b, o, none⟩ = false :=
  (World.frozen?_of_block (w := w) (a := ⟨b, o, none⟩) e).trans h

/-- All the pool's blocks as they were. -/
theorem Pl.same {c : Cfg} {w w' : World} {s : St} {h : Nat → Bool} (P : Pl c w s h) (e : ∀ k, k < w.heap.size → w'.heap[k]? = w.heap[k]?) : Pl c w' s h := by
  have ep := e c.p (cell_lt P.m)
  obtain ⟨clk, hes⟩ := P.es
  have hr : c.r < w.heap.size := by
    by_cases hb : c.r < w.heap.size
    · exact hb
    · have e : w.heap[c.r]? = none := by simp; omega
      rw [e] at hes; cases hes
  exact ⟨cell_some_block P.m ep, cell_some_block P.kept ep, cell_some_block P.ch ep, cell_some_block P.fee0 ep, cell_some_block P.fee1 ep, cell_some_block P.fee2 ep, cell_some_block P.fee3 ep, cell_some_block P.s1 ep, cell_some_block P.s2 ep, cell_some_block P.s3 ep, cell_some_block P.s4 ep, frozen_block P.f11 ep, frozen_block P.f29 ep, ⟨clk, (e c.r hr).trans hes⟩,
    fun j hj => ⟨cell_some_block (P.kc j hj).1 (e _ (cell_lt (P.kc j hj).1)), frozen_block (P.kc j hj).2 (e _ (cell_lt (P.kc j hj).1))⟩,
    fun t ht => ⟨cell_some_block (P.cch t ht).1 (e _ (cell_lt (P.cch t ht).1)), frozen_block (P.cch t ht).2 (e _ (cell_lt (P.cch t ht).1))⟩,
    fun x hx => (P.acc x hx).same (e _ (cell_lt (P.acc x hx).c0))⟩
theorem Pl.later {c : Cfg} {w w' : World} {s : St} {h : Nat → Bool} (P : Pl c w s h) (hb : Below w.heap.size w w') : Pl c w' s h := P.same hb.block
theorem Pl.drew {c : Cfg} {w : World} {s : St} {h : Nat → Bool} (P : Pl c w s h) : Pl c w.drew s h := P.same fun _ _ => rfl
theorem Pl.drawn {c : Cfg} {w : World} {s : St} {h : Nat → Bool} (P : Pl c w s h) (n : Nat) : Pl c (w.drewN n) s h := P.same fun _ _ => rfl

/-- 'acct.changed = false'. -/
theorem Pl.unmark {c : Cfg} {w : World} {s : St} {h : Nat → Bool} (P : Pl c w s h) (a : Apart c) {x : Nat} (hx : x < c.n) : Pl c (w.setCell ⟨c.A x, 9, none⟩ (.bool false)) s (fun y => if y = x then false else h y) := by
  have e : ∀ k, k ≠ c.A x → (w.setCell ⟨c.A x, 9, none⟩ (.bool false)).heap[k]? = w.heap[k]? := fun k hk => block_set w ⟨c.A x, 9, none⟩ _ k hk
  have ep := e c.p (Ne.symm (a.ap x hx))
  have ek := e c.gk (Ne.symm (a.ak x hx))
  have ec := e c.gc (Ne.symm (a.ac x hx))
  obtain ⟨clk, hes⟩ := P.es
  refine ⟨cell_some_block P.m ep, cell_some_block P.kept ep, cell_some_block P.ch ep, cell_some_block P.fee0 ep, cell_some_block P.fee1 ep, cell_some_block P.fee2 ep, cell_some_block P.fee3 ep, cell_some_block P.s1 ep, cell_some_block P.s2 ep, cell_some_block P.s3 ep, cell_some_block P.s4 ep, frozen_block P.f11 ep, frozen_block P.f29 ep, ⟨clk, (e c.r (Ne.symm (a.ar x hx))).trans hes⟩,
    fun j hj => ⟨cell_some_block (P.kc j hj).1 ek, frozen_block (P.kc j hj).2 ek⟩, fun t ht => ⟨cell_some_block (P.cch t ht).1 ec, frozen_block (P.cch t ht).2 ec⟩, fun y hy => ?_⟩
  by_cases q : y = x
  · subst q
    rw [if_pos rfl]
    exact (P.acc y hy).mark false
  · rw [if_neg q]
    exact (P.acc y hy).same (e _ (fun k => q (a.inj y x hy hx k)))

/-- 'delete(p.accounts, acct.sender)', of the map alone. -/
theorem Pl.forget {c : Cfg} {w : World} {s : St} {h : Nat → Bool} (P : Pl c w s h) (a : Apart c) (L' : List Nat) (k : Nat) : Pl c (putMap w c.r (ents c.A c.S L') k) ⟨s.K, s.f, L'⟩ h := by
  have e : ∀ i, i ≠ c.r → (putMap w c.r (ents c.A c.S L') k).heap[i]? = w.heap[i]? := fun i hi => putMap_other w c.r _ k i hi
  have ep := e c.p a.pr
  have ek := e c.gk (Ne.symm a.rk)
  have ec := e c.gc (Ne.symm a.rc)
  obtain ⟨clk, hes⟩ := P.es
  have hr : c.r < w.heap.size := by
    by_cases hb : c.r < w.heap.size
    · exact hb
    · have e : w.heap[c.r]? = none := by simp; omega
      rw [e] at hes; cases hes
  exact ⟨cell_some_block P.m ep, cell_some_block P.kept ep, cell_some_block P.ch ep, cell_some_block P.fee0 ep, cell_some_block P.fee1 ep, cell_some_block P.fee2 ep, cell_some_block P.fee3 ep, cell_some_block P.s1 ep, cell_some_block P.s2 ep, cell_some_block P.s3 ep, cell_some_block P.s4 ep, frozen_block P.f11 ep, frozen_block P.f29 ep, ⟨k, putMap_same w c.r _ k hr⟩,
    fun j hj => ⟨cell_some_block (P.kc j hj).1 ek, frozen_block (P.kc j hj).2 ek⟩, fun t ht => ⟨cell_some_block (P.cch t ht).1 ec, frozen_block (P.cch t ht).2 ec⟩, fun y hy => (P.acc y hy).same (e _ (a.ar y hy))⟩
end Go.Proofs.Ybulkdbbo
