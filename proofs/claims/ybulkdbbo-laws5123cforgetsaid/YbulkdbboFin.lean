/-
  LawS5123CForget: what stands when placeChanged is done.
-/
import Derived.Test.YbulkdbboSk
namespace Go.Proofs.Ybulkdbbo
open Go.RowKit Go.Lib

structure Fin9 (n : Nat) (nn bl bh : Nat → Int) (cg : Nat → Bool) (w0 w1 : World) (A : Nat → Nat) (ka : Option Addr) (gk ck : Nat) (ca : Option Addr) (cc : Nat) (w : World) : Prop where
  bel : Below w0.heap.size w0 w
  ch : w.cell? ⟨w0.heap.size + 1, 29, none⟩ = some (.slice ca 0 cc)
  kept : w.cell? ⟨w0.heap.size + 1, 11, none⟩ = some (.slice ka (Sk nn bl bh cg n n).K.length ck)
  m : w.cell? ⟨w0.heap.size + 1, 10, none⟩ = some (.map (some w0.heap.size))
  es : ∃ clk, w.heap[w0.heap.size]? = some (.map (ents A name (Sk nn bl bh cg n n).L) clk)
  s1 : w.cell? ⟨w0.heap.size + 1, 23, none⟩ = some (.slice none 0 0)
  s2 : w.cell? ⟨w0.heap.size + 1, 25, none⟩ = some (.slice none 0 0)
  s3 : w.cell? ⟨w0.heap.size + 1, 27, none⟩ = some (.slice none 0 0)
  s4 : w.cell? ⟨w0.heap.size + 1, 32, none⟩ = some (.int .u64 0)
  kc : ∀ j, j < (Sk nn bl bh cg n n).K.length → w.cell? ⟨gk, j, none⟩ = some (.pointer (some ⟨A ((Sk nn bl bh cg n n).K.getD j 0), 0, none⟩))
  ac : ∀ x, x < n → w.cell? ⟨w0.heap.size + 1 + 1, x, none⟩ = some (.pointer (some ⟨A x, 0, none⟩))
  acc : ∀ x, x < n → ∃ q, AcctIs w (A x) (name x) (nn x) (bl x) (bh x) ((Sk nn bl bh cg n n).f x) false q
  cm : ∀ j, j < (Sk nn bl bh cg n n).K.length → w.cell? ⟨w1.heap.size, j, none⟩ = some (.int .i64 (((Sk nn bl bh cg n n).K.getD j 0 : Nat) : Int))
  cr : ∀ x, x < n → w.cell? ⟨w1.heap.size + 1 + 1, x, none⟩ = some (.bool (rmv nn bl bh cg n x))
  hka : 0 < n → ka = some ⟨gk, 0, none⟩

section
variable {n : Nat} {nn bl bh fr : Nat → Int} {cg : Nat → Bool} {w0 w1 w : World} {A : Nat → Nat} {kv cv : Value} {ka ca : Option Addr} {gk ck cc : Nat}

theorem Fin9.drew (h : Fin9 n nn bl bh cg w0 w1 A ka gk ck ca cc w) : Fin9 n nn bl bh cg w0 w1 A ka gk ck ca cc w.drew :=
  ⟨h.bel.drew, h.ch, h.kept, h.m, h.es, h.s1, h.s2, h.s3, h.s4, h.kc, h.ac, fun x hx => by
    obtain ⟨q, hq⟩ := h.acc x hx
    exact ⟨q, hq.same rfl⟩, h.cm, h.cr, h.hka⟩

theorem call9 (g : G (dat n nn bl bh fr cg w0) w0 A n n n n n cg (frp fr cg) kv cv w1) (hn : n ≤ 1024) (hz : (dat n nn bl bh fr cg w0).Cs n = [] → cv = .slice none 0 0) (m : T3 nn bl bh cg w1 n n w) :
    Calls Yba.prog 9 #[.pointer (some ⟨w0.heap.size + 1, 0, none⟩)] w fun e w' => e = .returned (.tuple #[]) ∧ ∃ ka gk ck ca cc, Fin9 n nn bl bh cg w0 w1 A ka gk ck ca cc w' := by
  have mb : Below w1.heap.size w1 w := M3.bel m
  have msz : w1.heap.size + 1 + 1 + 1 ≤ w.heap.size := M3.sz m
  have gsz : w0.heap.size + 1 + 1 + 1 ≤ w1.heap.size := g.sz
  have gl := g.later (dat_lies n nn bl bh fr cg w0) mb
  obtain ⟨c, a, P, en, eA, ep, er, enn, ebl, ebh, eS, eC, far⟩ := gl.toPl hn hz w1.heap.size gsz mb.size (fun x hx => (g.ok.lt x hx).2) (fun x hx => (g.oc.lt x hx).2) (fun x hx => cell_lt (g.cb x hx).c0)
  have hst : after c.idle c.n c.C = Sk nn bl bh cg n n := by
    have : c.idle = fun x => idleB (nn x) (bl x) (bh x) := by
      funext x
      unfold Cfg.idle
      rw [enn, ebl, ebh]
    rw [this, en, eC]; rfl
  have H := placeChanged c a w cg (by rw [en]; exact P) (fun x hx h => by
    rw [eC, List.mem_filter]
    rw [en] at hx
    exact ⟨by simpa using hx, h⟩)
  rw [ep] at H
  refine H.mono ?_
  rintro e w' ⟨he, P2, F⟩
  rw [hst, eA, er, enn, ebl, ebh, eS] at P2
  have fb : ∀ k, k < w.heap.size → (k < w0.heap.size ∨ k = w0.heap.size + 1 + 1 ∨ w1.heap.size ≤ k) → w'.heap[k]? = w.heap[k]? := fun k hk ho => by
    obtain ⟨f1, f2, f3, f4, f5⟩ := far k hk ho
    exact F.block k hk f1 f2 f3 f4 f5
  refine ⟨he, c.ka, c.gk, c.ck, c.ca, c.cc, ?_, ?_, ?_, ?_, ?_, ?_, ?_, ?_, ?_, ?_, ?_, ?_, ?_, ?_, ?_⟩
  · have b1 : Below w0.heap.size w0 w := g.bel.trans (mb.mono g.bel.size)
    exact b1.trans ⟨F.os, F.tape, F.output, F.size, fun k hk => fb k (by omega) (.inl hk)⟩
  · have := P2.ch
    exact this
  · have := P2.kept
    exact this
  · have := P2.m
    exact this
  · have := P2.es
    exact this
  · have := P2.s1
    exact this
  · have := P2.s2
    exact this
  · have := P2.s3
    exact this
  · have := P2.s4
    exact this
  · intro j hj
    have := (P2.kc j hj).1
    exact this
  · intro x hx
    have h1 : w.cell? ⟨w0.heap.size + 1 + 1, x, none⟩ = some (ptrA A x) := gl.ab.put x hx
    exact cell_some_block h1 (fb _ (by omega) (.inr (.inl rfl)))
  · intro x hx
    have := P2.acc x (by show x < c.n; rw [en]; exact hx)
    exact ⟨_, this⟩
  · intro j hj
    exact cell_some_block (M3.cm m j hj) (fb _ (by omega) (.inr (.inr (Nat.le_refl _))))
  · intro x hx
    exact cell_some_block (M3.cr m x hx) (fb _ (by omega) (.inr (.inr (by omega))))
  · intro h
    exact a.ka (by rw [en]; exact h)

theorem Sk_left {x : Nat} (hx : x < n) : x ∈ (Sk nn bl bh cg n n).L ↔ rmv nn bl bh cg n x = false := by
  unfold Sk
  rw [after_left]
  unfold rmv gone
  simp only [List.mem_filter, List.mem_range, hx, true_and, decide_true, Bool.true_and]
  cases cg x <;> simp

theorem Fin9.look_in (h : Fin9 n nn bl bh cg w0 w1 A ka gk ck ca cc w) (hn : n ≤ 1024) {x : Nat} (hx : x < n) (hr : rmv nn bl bh cg n x = false) :
    (Instr.lookup 35 (.map (some w0.heap.size)) (.string (name x)) true).run Yba.prog w = .ok (.tuple #[.pointer (some ⟨A x, 0, none⟩), .bool true]) w := by
  obtain ⟨clk, he⟩ := h.es
  have q := Sk_KL (nn := nn) (bl := bl) (bh := bh) (cg := cg) (Nat.le_refl n)
  exact run_lookup_in (S := name) he ((Sk_left hx).2 hr) (fun y hy e => name_inj y x (Nat.lt_of_lt_of_le (q.lt y hy) hn) (Nat.lt_of_lt_of_le hx hn) e)
theorem Fin9.look_out (h : Fin9 n nn bl bh cg w0 w1 A ka gk ck ca cc w) (hn : n ≤ 1024) {x : Nat} (hx : x < n) (hr : rmv nn bl bh cg n x = true) :
    (Instr.lookup 35 (.map (some w0.heap.size)) (.string (name x)) true).run Yba.prog w = .ok (.tuple #[.pointer none, .bool false]) w := by
  obtain ⟨clk, he⟩ := h.es
  have q := Sk_KL (nn := nn) (bl := bl) (bh := bh) (cg := cg) (Nat.le_refl n)
  refine run_lookup_out (S := name) he (fun y hy e => ?_)
  have := name_inj y x (Nat.lt_of_lt_of_le (q.lt y hy) hn) (Nat.lt_of_lt_of_le hx hn) e
  subst this
  have := (Sk_left hx).1 hy
  rw [hr] at this
  cases this
theorem Fin9.maplen (h : Fin9 n nn bl bh cg w0 w1 A ka gk ck ca cc w) (ty : TypeId) :
    (Builtin.len_ #[35] ty #[.map (some w0.heap.size)]).run Yba.prog w = .ok (.int .i64 (Sk nn bl bh cg n n).K.length) w := by
  obtain ⟨clk, he⟩ := h.es
  have q := Sk_KL (nn := nn) (bl := bl) (bh := bh) (cg := cg) (Nat.le_refl n)
  rw [q.len]
  exact run_maplen he ty
end
end Go.Proofs.Ybulkdbbo
