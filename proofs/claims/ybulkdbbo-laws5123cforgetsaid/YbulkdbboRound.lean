/-
  LawS5123CForget, one round of the filling loop: the facts each region needs, in the walk's own spelling.
-/
import Derived.Test.YbulkdbboStart
namespace Go.Proofs.Ybulkdbbo
open Go.RowKit Go.Lib

section
variable {n : Nat} {nn bl bh fr : Nat → Int} {cg : Nat → Bool} {w0 w : World} {A : Nat → Nat} {ac na nm nk nc k b1 : Nat} {mk : Nat → Bool} {pf : Nat → Int} {kv cv : Value}

/-- The room of 'accts'. -/
theorem G.roomAt (h : G (dat n nn bl bh fr cg w0) w0 A ac na nm nk nc mk pf kv cv w) (hk : k < n) : (∃ v, w.cell? ⟨w0.heap.size + 1 + 1, k, none⟩ = some v) ∧ w.frozen? ⟨w0.heap.size + 1 + 1, k, none⟩ = false := h.ab.room k hk
theorem G.putAt (h : G (dat n nn bl bh fr cg w0) w0 A ac k nm nk nc mk pf kv cv w) (hk : k < n) (hA : A k = b1) : G (dat n nn bl bh fr cg w0) w0 A ac (k + 1) nm nk nc mk pf kv cv (w.setCell ⟨w0.heap.size + 1 + 1, k, none⟩ (.pointer (some ⟨b1, 0, none⟩))) := by
  have := h.put (dat_lies n nn bl bh fr cg w0) hk
  subst hA
  exact this
theorem G.mAt (h : G (dat n nn bl bh fr cg w0) w0 A ac na nm nk nc mk pf kv cv w) : w.cell? ⟨w0.heap.size + 1, 10, none⟩ = some (.map (some w0.heap.size)) := h.pb.m
theorem G.keptAt (h : G (dat n nn bl bh fr cg w0) w0 A ac na nm nk nc mk pf kv cv w) : w.cell? ⟨w0.heap.size + 1, 11, none⟩ = some kv := h.pb.kept
theorem G.chAt (h : G (dat n nn bl bh fr cg w0) w0 A ac na nm nk nc mk pf kv cv w) : w.cell? ⟨w0.heap.size + 1, 29, none⟩ = some cv := h.pb.ch
theorem G.acctAt (h : G (dat n nn bl bh fr cg w0) w0 A ac na nm nk nc mk pf kv cv w) (hk : k < ac) (hA : A k = b1) : AcctIs w b1 (name k) (nn k) (bl k) (bh k) k (mk k) (pf k) := by
  have := h.cb k hk
  rw [hA] at this
  exact this
theorem G.updAt (h : G (dat n nn bl bh fr cg w0) w0 A ac na k nk nc mk pf kv cv w) (hn : n ≤ 1024) (hk : k < n) (hA : A k = b1) :
    (Instr.mapUpdate 35 (.map (some w0.heap.size)) (.string (name k)) (.pointer (some ⟨b1, 0, none⟩))).run Yba.prog w.drew = .ok () (putMap w.drew w0.heap.size (ents A name (List.range k ++ [k])) (k + 1)) := by
  subst hA
  refine run_update (A := A) (S := name) (r := w0.heap.size) (x := k) (L := List.range k) (w := w.drew) h.mb (fun y hy e => ?_)
  have hy' : y < k := by simpa using hy
  have := name_inj y k (by omega) (by omega) e
  omega
theorem G.mapAt (h : G (dat n nn bl bh fr cg w0) w0 A ac na k nk nc mk pf kv cv w) : G (dat n nn bl bh fr cg w0) w0 A ac na (k + 1) nk nc mk pf kv cv (putMap w.drew w0.heap.size (ents A name (List.range k ++ [k])) (k + 1)) := h.drew.map (dat_lies n nn bl bh fr cg w0)

/-- An append to kept leaves the pool's own cells. -/
theorem G.grewKept {w' : World} {o : Obj} (h : G (dat n nn bl bh fr cg w0) w0 A ac na nm nk nc mk pf kv cv w) (hg : (w.alloc o).grownBy w' kv.ownBlock) : w'.cell? ⟨w0.heap.size + 1, 11, none⟩ = some kv ∧ w'.frozen? ⟨w0.heap.size + 1, 11, none⟩ = false := by
  have sz : w0.heap.size + 1 + 1 + 1 ≤ w.heap.size := h.sz
  have e : w'.heap[w0.heap.size + 1]? = w.heap[w0.heap.size + 1]? := (hg.block _ (by simp; omega) (fun e => by have : w0.heap.size + 1 + 1 + 1 ≤ w0.heap.size + 1 := (h.ok.lt _ e.symm).1; omega)).trans (Below.heap_alloc w o _ (by omega))
  exact ⟨cell_some_block h.keptAt e, frozen_block (show w.frozen? ⟨w0.heap.size + 1, 11, none⟩ = false from h.pb.f11) e⟩
theorem G.grewCh {w' : World} {o : Obj} (h : G (dat n nn bl bh fr cg w0) w0 A ac na nm nk nc mk pf kv cv w) (hg : (w.alloc o).grownBy w' cv.ownBlock) : w'.cell? ⟨w0.heap.size + 1, 29, none⟩ = some cv ∧ w'.frozen? ⟨w0.heap.size + 1, 29, none⟩ = false := by
  have sz : w0.heap.size + 1 + 1 + 1 ≤ w.heap.size := h.sz
  have e : w'.heap[w0.heap.size + 1]? = w.heap[w0.heap.size + 1]? := (hg.block _ (by simp; omega) (fun e => by have : w0.heap.size + 1 + 1 + 1 ≤ w0.heap.size + 1 := (h.oc.lt _ e.symm).1; omega)).trans (Below.heap_alloc w o _ (by omega))
  exact ⟨cell_some_block h.chAt e, frozen_block (show w.frozen? ⟨w0.heap.size + 1, 29, none⟩ = false from h.pb.f29) e⟩
theorem G.okAt (h : G (dat n nn bl bh fr cg w0) w0 A ac na nm k nc mk pf kv cv w) : w.ownsRow (w0.heap.size + 1 + 1 + 1) 52 1 kv k ((List.range k).map (ptrA A)) := h.ok
theorem G.keepAt {w' : World} {g' c' : Nat} {o : Obj} (h : G (dat n nn bl bh fr cg w0) w0 A ac na nm k nc mk pf kv cv w) (hA : A k = b1)
    (ho : w'.ownsRow (w0.heap.size + 1 + 1 + 1) 52 1 (.slice (some ⟨g', 0, none⟩) (k + 1) c') (k + 1) ((List.range k).map (ptrA A) ++ [.pointer (some ⟨b1, 0, none⟩)])) (hg : (w.alloc o).grownBy w' kv.ownBlock) (hf : kv.ownBlock = some g' ∨ w.heap.size < g') :
    G (dat n nn bl bh fr cg w0) w0 A ac na nm (k + 1) nc mk pf (.slice (some ⟨g', 0, none⟩) (k + 1) c') cv (w'.setCell ⟨w0.heap.size + 1, 11, none⟩ (.slice (some ⟨g', 0, none⟩) (k + 1) c')) := by
  subst hA
  exact h.keep (dat_lies n nn bl bh fr cg w0) ho hg hf
theorem G.ocAt (h : G (dat n nn bl bh fr cg w0) w0 A ac na nm nk k mk pf kv cv w) : w.ownsRow (w0.heap.size + 1 + 1 + 1) 52 1 cv ((dat n nn bl bh fr cg w0).Cs k).length (((dat n nn bl bh fr cg w0).Cs k).map (ptrA A)) := h.oc
theorem G.noteAt {w' : World} {g' c' : Nat} {o : Obj} (h : G (dat n nn bl bh fr cg w0) w0 A ac na nm nk k mk pf kv cv w) (hA : A k = b1) (hcg : cg k = true)
    (ho : w'.ownsRow (w0.heap.size + 1 + 1 + 1) 52 1 (.slice (some ⟨g', 0, none⟩) (((dat n nn bl bh fr cg w0).Cs k).length + 1) c') (((dat n nn bl bh fr cg w0).Cs k).length + 1) (((dat n nn bl bh fr cg w0).Cs k).map (ptrA A) ++ [.pointer (some ⟨b1, 0, none⟩)])) (hg : (w.alloc o).grownBy w' cv.ownBlock) (hf : cv.ownBlock = some g' ∨ w.heap.size < g') :
    G (dat n nn bl bh fr cg w0) w0 A ac na nm nk (k + 1) mk pf kv (.slice (some ⟨g', 0, none⟩) (((dat n nn bl bh fr cg w0).Cs k).length + 1) c') (w'.setCell ⟨w0.heap.size + 1, 29, none⟩ (.slice (some ⟨g', 0, none⟩) (((dat n nn bl bh fr cg w0).Cs k).length + 1) c')) := by
  subst hA
  exact h.note (dat_lies n nn bl bh fr cg w0) hcg ho hg hf

theorem G.markAt (h : G (dat n nn bl bh fr cg w0) w0 A (k + 1) na nm nk nc (fun x => if x = k then false else cg x) pf kv cv w) (hA : A k = b1) (hcg : cg k = true) :
    G (dat n nn bl bh fr cg w0) w0 A (k + 1) na nm nk nc cg pf kv cv (w.setCell ⟨b1, 9, none⟩ (.bool true)) := by
  subst hA
  refine h.acct (y := k) (dat_lies n nn bl bh fr cg w0) (Nat.lt_succ_self k) rfl ?_ (fun x hx => ⟨by simp [hx], rfl⟩)
  rw [hcg]
  exact (h.cb k (Nat.lt_succ_self k)).mark true
theorem G.fromAt (h : G (dat n nn bl bh fr cg w0) w0 A (k + 1) na nm nk nc cg (fun x => if x = k then 0 else frp fr cg x) kv cv w) (hA : A k = b1) (hcg : cg k = true) :
    G (dat n nn bl bh fr cg w0) w0 A (k + 1) na nm nk nc cg (frp fr cg) kv cv (w.setCell ⟨b1, 10, none⟩ (.int .u64 (fr k))) := by
  subst hA
  refine h.acct (y := k) (dat_lies n nn bl bh fr cg w0) (Nat.lt_succ_self k) rfl ?_ (fun x hx => ⟨rfl, by simp [hx]⟩)
  have e : frp fr cg k = fr k := by simp [frp, hcg]
  rw [e]
  exact (h.cb k (Nat.lt_succ_self k)).from_ (fr k)
theorem G.passAt (h : G (dat n nn bl bh fr cg w0) w0 A (k + 1) na nm nk k (fun x => if x = k then false else cg x) (fun x => if x = k then 0 else frp fr cg x) kv cv w) (hcg : cg k = false) :
    G (dat n nn bl bh fr cg w0) w0 A (k + 1) na nm nk (k + 1) cg (frp fr cg) kv cv w := by
  refine (h.pass hcg).marks (fun x hx => ?_)
  by_cases e : x = k
  · subst e; simp [frp, hcg]
  · simp [e]
end
end Go.Proofs.Ybulkdbbo
