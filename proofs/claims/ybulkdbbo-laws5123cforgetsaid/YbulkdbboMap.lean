/-
  The pool's map of accounts: what the four map operations on the road do to it.
-/
import Derived.Test.YbulkdbboIdle
import Derived.MapKept
namespace Go.Proofs.Ybulkdbbo
open Go.RowKit Go.Lib Go.MapKept

/-- The entry of account x. -/
def entry (A : Nat → Nat) (S : Nat → ByteArray) (x : Nat) : MapEntry := { key := .string (S x), val := .pointer (some ⟨A x, 0, none⟩), born := x }
def ents (A : Nat → Nat) (S : Nat → ByteArray) (L : List Nat) : Array MapEntry := (L.map (entry A S)).toArray
def putMap (w : World) (r : Nat) (es : Array MapEntry) (c : Nat) : World := { w with heap := w.heap.setIfInBounds r (.map es c) }

theorem bytes_same (a : ByteArray) : (a == a) = true := by rw [beq_toListBytes]; simp
theorem bytes_other {a b : ByteArray} (h : a ≠ b) : (a == b) = false := by
  rw [beq_toListBytes, ByteArray.toList_eq, ByteArray.toList_eq]
  obtain ⟨⟨x⟩⟩ := a
  obtain ⟨⟨y⟩⟩ := b
  simp only [beq_eq_false_iff_ne]
  intro e
  apply h
  congr

theorem find_out (A : Nat → Nat) (S : Nat → ByteArray) (s : ByteArray) : ∀ (L : List Nat) (i : Nat), (∀ y ∈ L, S y ≠ s) → Instr.findNow .string (.string s) (L.map (entry A S)) i = some none
  | [], _, _ => rfl
  | y :: L, i, h => by
    have h1 : (s == S y) = false := bytes_other fun e => h y (by simp) e.symm
    simp only [List.map_cons, Instr.findNow, entry, Instr.sameNow, h1]
    exact find_out A S s L (i + 1) (fun z hz => h z (by simp [hz]))

theorem find_in (A : Nat → Nat) (S : Nat → ByteArray) (x : Nat) : ∀ (L : List Nat) (i : Nat), x ∈ L → (∀ y ∈ L, S y = S x → y = x) → Instr.findNow .string (.string (S x)) (L.map (entry A S)) i = some (some (i + L.idxOf x, .pointer (some ⟨A x, 0, none⟩)))
  | y :: L, i, hx, h => by
    by_cases e : y = x
    · subst e
      simp [Instr.findNow, entry, Instr.sameNow, List.idxOf_cons_self, bytes_same]
    · have h1 : (S x == S y) = false := bytes_other fun k => e (h y (by simp) k.symm)
      have hx' : x ∈ L := by
        rcases List.mem_cons.1 hx with h | h
        · exact absurd h.symm e
        · exact h
      simp only [List.map_cons, Instr.findNow, entry, Instr.sameNow, h1]
      rw [find_in A S x L (i + 1) hx' (fun z hz => h z (by simp [hz]))]
      have h2 : (y :: L).idxOf x = L.idxOf x + 1 := by
        rw [List.idxOf_cons]
        have : (y == x) = false := by simpa using e
        rw [this]; rfl
      rw [h2]
      congr 3
      omega

theorem map_eraseIdx {α β : Type} (f : α → β) : ∀ (l : List α) (i : Nat), (l.map f).eraseIdx i = (l.eraseIdx i).map f
  | [], _ => rfl
  | _ :: _, 0 => rfl
  | a :: l, i + 1 => by simp [map_eraseIdx f l i]
theorem erase_at (x : Nat) : ∀ l : List Nat, l.eraseIdx (l.idxOf x) = l.erase x
  | [] => rfl
  | y :: l => by
    by_cases e : y = x
    · subst e; simp [List.idxOf_cons_self]
    · have h1 : (y == x) = false := by simpa using e
      rw [List.idxOf_cons, List.erase_cons, h1]
      simp [erase_at x l]

section
variable {A : Nat → Nat} {S : Nat → ByteArray} {r c x : Nat} {L : List Nat} {w : World}

theorem run_update (hb : w.heap[r]? = some (.map (ents A S L) x)) (hx : ∀ y ∈ L, S y ≠ S x) :
    (Instr.mapUpdate 35 (.map (some r)) (.string (S x)) (.pointer (some ⟨A x, 0, none⟩))).run Yba.prog w = .ok () (putMap w r (ents A S (L ++ [x])) (x + 1)) := by
  have hf := run_findKey (w := w) Yba.underlying9 (find_out A S (S x) L 0 hx)
  have hk : IsKey .string (.string (S x)) := trivial
  simp [Instr.mapUpdate, run_underlying Yba.underlying35, MapKept.run_getObj_map hb, run_checkKey Yba.underlying9 hk, ents, hf, run_setObj_map _ hb, putMap, entry]

theorem run_delete (hb : w.heap[r]? = some (.map (ents A S L) c)) {x : Nat} (hx : x ∈ L) (hS : ∀ y ∈ L, S y = S x → y = x) (ty : TypeId) :
    (Builtin.delete_ #[35, 9] ty #[.map (some r), .string (S x)]).run Yba.prog w = .ok (.tuple #[]) (putMap w r (ents A S (L.erase x)) c) := by
  have hf := run_findKey (w := w) Yba.underlying9 (find_in A S x L 0 hx hS)
  have hk : IsKey .string (.string (S x)) := trivial
  have he : (ents A S L).eraseIdxIfInBounds (L.idxOf x) = ents A S (L.erase x) := by
    have hl : L.idxOf x < L.length := List.idxOf_lt_length_iff.2 hx
    unfold ents
    rw [Array.eraseIdxIfInBounds, dif_pos (by simpa using hl)]
    simp only [List.eraseIdx_toArray]
    rw [map_eraseIdx, erase_at]
  have hs := run_setObj_map (P := Yba.prog) (.map (ents A S (L.erase x)) c) hb
  have ht : (ents A S L).toList = L.map (entry A S) := rfl
  rw [Nat.zero_add] at hf
  simp [Builtin.delete_, run_underlying Yba.underlying35, MapKept.run_getObj_map hb, run_checkKey Yba.underlying9 hk, ht, hf, he, hs, putMap]

theorem run_lookup_in (hb : w.heap[r]? = some (.map (ents A S L) c)) {x : Nat} (hx : x ∈ L) (hS : ∀ y ∈ L, S y = S x → y = x) :
    (Instr.lookup 35 (.map (some r)) (.string (S x)) true).run Yba.prog w = .ok (.tuple #[.pointer (some ⟨A x, 0, none⟩), .bool true]) w := by
  have hf := run_findKey (w := w) Yba.underlying9 (find_in A S x L 0 hx hS)
  have hk : IsKey .string (.string (S x)) := trivial
  simp [Instr.lookup, run_underlying Yba.underlying35, MapKept.run_getObj_map hb, run_checkKey Yba.underlying9 hk, ents, hf]

theorem run_lookup_out (hb : w.heap[r]? = some (.map (ents A S L) c)) {x : Nat} (hS : ∀ y ∈ L, S y ≠ S x) :
    (Instr.lookup 35 (.map (some r)) (.string (S x)) true).run Yba.prog w = .ok (.tuple #[.pointer none, .bool false]) w := by
  have hf := run_findKey (w := w) Yba.underlying9 (find_out A S (S x) L 0 hS)
  have hk : IsKey .string (.string (S x)) := trivial
  have hz : (zeroValue 52).run Yba.prog w = .ok (.pointer none) w := by kernel_rfl
  simp [Instr.lookup, run_underlying Yba.underlying35, MapKept.run_getObj_map hb, run_checkKey Yba.underlying9 hk, ents, hf, hz]

theorem run_maplen (hb : w.heap[r]? = some (.map (ents A S L) c)) (ty : TypeId) :
    (Builtin.len_ #[35] ty #[.map (some r)]).run Yba.prog w = .ok (.int .i64 L.length) w := by
  simp [Builtin.len_, run_underlying Yba.underlying35, MapKept.run_getObj_map hb, ents, goInt]
end
end Go.Proofs.Ybulkdbbo
