/-
  LawS5123CForget: what a slice of ZzS5123CAcct that came in holds, cell by cell.
-/
import Derived.Test.YbulkdbboStart
import Derived.Deep.Slices
import Derived.ChangeArms
namespace Go.Proofs.Ybulkdbbo
open Go.RowKit Go.Lib Go.ChangeShapes Go.WideShapes

/-- The five cells of one element. -/
def FiveAt (w : World) (a : Addr) (v : Int × Int × Int × Int × Bool) : Prop :=
  w.cell? a = some (.int .u64 v.1) ∧ w.cell? (a.add 1) = some (.int .u64 v.2.1) ∧ w.cell? (a.add 2) = some (.int .u64 v.2.2.1) ∧ w.cell? (a.add 3) = some (.int .u64 v.2.2.2.1) ∧ w.cell? (a.add 4) = some (.bool v.2.2.2.2)
/-- What the walk is told of the slice: it is nil; or each element's five cells hold four words and a bool. -/
def IsAccts (w : World) (a : Option Addr) (len : Nat) : Prop :=
  (a = none ∧ len = 0) ∨ ∃ x, a = some x ∧ ∀ i, i < len → ∃ v, FiveAt w (x.add (i * 5)) v

theorem cells56 : Yba.prog.cellsOf 56 = 5 := by kernel_rfl
theorem cells22 : Yba.prog.cellsOf 22 = 1 := by kernel_rfl
theorem cells4 : Yba.prog.cellsOf 4 = 1 := by kernel_rfl

theorem five_list {α : Type} : ∀ {l : List α}, l.length = 5 → ∃ a b c d e, l = [a, b, c, d, e]
  | [a, b, c, d, e], _ => ⟨a, b, c, d, e, rfl⟩

theorem five_of {H : Type} {enc : TypeId × Value → H} {w : World} {base : Nat} {spare : Nat → Bool} {held : Bool} {m : Nat} {a : Addr} {cs : List Value} {x : DataW H × List MemPlace}
    (hc : w.cells? base a 5 = some cs) (h : DataW.trod enc Yba.prog w base spare held m 56 cs = some x) : ∃ v, FiveAt w a v := by
  obtain ⟨_, hl, hcell⟩ := World.cells?_some hc
  obtain ⟨xs, n, _, _, _, hlen, hf⟩ := DataW.trod_struct Yba.underlying56 h
  obtain ⟨c0, c1, c2, c3, c4, rfl⟩ := five_list hl
  obtain ⟨y0, y1, y2, y3, y4, rfl⟩ := five_list (show xs.length = 5 from hlen)
  have f0 := hf 0 _ rfl
  have f1 := hf 1 _ rfl
  have f2 := hf 2 _ rfl
  have f3 := hf 3 _ rfl
  have f4 := hf 4 _ rfl
  simp [cells22, cells4] at f0 f1 f2 f3 f4
  obtain ⟨n0, e0, _⟩ := DataW.trod_int Yba.underlying22 f0
  obtain ⟨n1, e1, _⟩ := DataW.trod_int Yba.underlying22 f1
  obtain ⟨n2, e2, _⟩ := DataW.trod_int Yba.underlying22 f2
  obtain ⟨n3, e3, _⟩ := DataW.trod_int Yba.underlying22 f3
  obtain ⟨n4, e4, _⟩ := DataW.trod_bool Yba.underlying4 f4
  have g0 := hcell 0 (by omega)
  have g1 := hcell 1 (by omega)
  have g2 := hcell 2 (by omega)
  have g3 := hcell 3 (by omega)
  have g4 := hcell 4 (by omega)
  simp at e0 e1 e2 e3 e4
  subst e0 e1 e2 e3 e4
  have ha : a.add 0 = a := by unfold Addr.add; simp
  rw [ha] at g0
  exact ⟨(n0, n1, n2, n3, n4), g0, g1, g2, g3, g4⟩

theorem accts_of {H : Type} {enc : TypeId × Value → H} {w : World} {base : Nat} {spare : Nat → Bool} {held : Bool} {fuel : Nat} {a : Option Addr} {len cap : Nat} {x : DataW H × List MemPlace}
    (h : DataW.trod enc Yba.prog w base spare held fuel 33 [.slice a len cap] = some x) : IsAccts w a len := by
  rcases Deep.open_slice Yba.underlying33 h with ⟨hcs, _⟩ | ⟨y, l, c, m, n, D, Pl, hcs, _, hl, _, hmm, _, hel⟩
  · simp at hcs
    obtain ⟨rfl, rfl, rfl⟩ := hcs
    exact .inl ⟨rfl, rfl⟩
  · simp at hcs
    obtain ⟨rfl, rfl, rfl⟩ := hcs
    refine .inr ⟨_, rfl, fun i hi => ?_⟩
    have him : i < m := by rw [hmm]; split <;> omega
    obtain ⟨cs', h1, h2⟩ := hel i him
    rw [cells56] at h1
    exact five_of h1 h2
end Go.Proofs.Ybulkdbbo
