/-
  A PROOF OF 'Rows.LawS5124BExactSaid' ('example.com/tandemkey/tandemkey.LawS5124BExact'): after the shells that the guide's tool writes for her sisters.
  The walk is the prover's; the row's step is the guide's own.
-/
import Derived.Test.YbulkdbccRows
import Derived.Test.YbulkdbccExact
import Derived.WalkKit
import Derived.ProofKit
import Derived.OpenShut
import Derived.ShutString
import Derived.ChangeOld
import Derived.Below
import Derived.Deep.Slices
namespace Go.Proofs.Ybulkdbcc.lawS5124BExact
open Go.ChangeShapes Go.WideShapes Go.ChangeAt Go.RowKit
open Go.ChangeMaps (open_string shut_string)
set_option linter.unusedVariables false

theorem own : ownKnob Yba.prog.godebug = none := by kernel_rfl
theorem laidOut : laidOutB Yba.prog = true := by kernel_rfl

theorem cell_lt {w : World} {b o : Nat} {v : Value} (h : w.cell? ⟨b, o, none⟩ = some v) : b < w.heap.size := by
  unfold World.cell? at h
  by_cases hb : b < w.heap.size
  · exact hb
  · have e : w.heap[b]? = none := by simp; omega
    simp [e] at h

/-- What the walk is told of the slice of slices that came in: it is nil; or each of its first 'len' cells holds a slice. -/
def IsRows (w : World) (a : Option Addr) (len : Nat) : Prop :=
  (a = none ∧ len = 0) ∨ ∃ x, a = some x ∧ ∀ i, i < len → ∃ y l c, w.cell? (x.add i) = some (.slice y l c)

theorem walk (a0 : Bool) (a1 : Option Addr) (len1 cap1 : Nat) (a2 : ByteArray) (w : World) (w1 : IsRows w a1 len1) :
    Calls Yba.prog 5 #[.bool a0, .slice a1 len1 cap1, .string a2] w fun e w' => e = .returned (.bool true) ∧ Below w.heap.size w w' := by
  by_cases hlen : len1 ≤ 1024
  · by_cases hz : len1 = 0
    · subst hz
      exact exact_walk a0 a1 0 0 0 cap1 a2 w (by omega) (fun h => absurd h (by omega)) (fun h => absurd h (by omega)) (hide fun i hi => absurd hi (by omega))
    · rcases w1 with ⟨_, h0⟩ | ⟨x, rfl, hcell⟩
      · exact absurd h0 hz
      · obtain ⟨b, off, spot⟩ := x
        obtain ⟨y0, l0, c0, hc0⟩ := hcell 0 (by omega)
        have hspot : spot = none := by simpa [Addr.add] using World.cell?_spot hc0
        subst hspot
        have hcell' : ∀ j, j < len1 → ∃ y l c, w.cell? ⟨b, off + j, none⟩ = some (.slice y l c) := fun j hj => by rw [← add_plain]; exact hcell j hj
        obtain ⟨_, _, _, hc1⟩ := hcell' 0 (by omega)
        have hb : b < w.heap.size := cell_lt hc1
        exact exact_walk a0 (some ⟨b, off, none⟩) b off len1 cap1 a2 w hlen (fun _ => rfl) (fun _ => hb) (hide hcell')
  · go_enter Yba.func5, Yba.ntmps5
    go_wp2
    go_ret
    exact ⟨rfl, Below.refl _ _⟩

/-! ### THE ROW's STEP -/
set_option maxRecDepth 100000 in
theorem lifted (os : Os) (started : os.Started) (H : Type) (enc : TypeId × Value → H) :
    ReturnsInHanded {} Yba.checked os 5 .any (Rows.lawS5124BExactSpec.pre6 enc Yba.prog Yba.f5 Rows.lawS5124BExactRow.domain false) (Rows.lawS5124BExactSpec.post enc Yba.prog Yba.f5 false true false false) := by
  refine returnsInHanded_of_change (C := Yba.checked) own started (by kernel_rfl) Yba.func5
    (ChangeSpec.witness6 (enc := enc) (C := Yba.checked) false ⟨#[], #[.bool false, .slice none 0 0, .string .empty], []⟩ 8 (by kernel_rfl) (by kernel_rfl) (by kernel_rfl) (by kernel_rfl)) ?_
  intro W base args ds gs before hval0 hW hcnd _
  have hval : ∀ (j : Nat) t v, Yba.f5.params[j]? = some t → args[j]? = some v → Value.okWide Yba.prog W .any base t v := hval0
  have hW' := hW
  obtain ⟨p, q, hA0, hV, rfl, hfz, hnd⟩ := hW
  have hA : DataW.TrodAll enc Yba.prog W 0 (fun _ => true) true Yba.f5.params.toList args.toList ds p := hA0
  rw [Yba.params5] at hA hval
  obtain ⟨v0, vs0, d0, ds0, p0, q0, hargs, rfl, rfl, h0, r0⟩ := trodAll_cons hA
  obtain ⟨v1, vs1, d1, ds1, p1, q1, rfl, rfl, rfl, h1, r1⟩ := trodAll_cons r0
  obtain ⟨v2, vs2, d2, ds2, p2, q2, rfl, rfl, rfl, h2, r2⟩ := trodAll_cons r1
  obtain ⟨rfl, rfl, rfl⟩ := trodAll_nil r2
  obtain rfl : args = #[v0, v1, v2] := by cases args; simp_all
  obtain ⟨rfl, rfl⟩ := trodVars_none hV
  obtain ⟨a0, rfl, rfl, rfl⟩ := open_bool Yba.underlying4 (hval 0 4 v0 rfl rfl) h0
  obtain ⟨a1, len1, cap1, rfl⟩ := okWide_slice Yba.underlying26 (hval 1 26 v1 rfl rfl)
  have k1 := h1
  have lt1 : ∀ x ∈ p1, x.block < W.heap.size := by obtain ⟨m, hm⟩ := k1; exact DataW.trod_lt m _ _ _ hm
  have w1 : IsRows W a1 len1 := by
    obtain ⟨fuel, hf⟩ := h1
    rcases Deep.open_slice1 Yba.underlying26 (by kernel_rfl) hf with ⟨hcs, _⟩ | ⟨x, l, c, m, n, V, D, Pl, hcs, _, hl, hm, hmm, _, hcell⟩
    · simp [Value.cells] at hcs
      obtain ⟨rfl, rfl, rfl⟩ := hcs
      exact .inl ⟨rfl, rfl⟩
    · simp [Value.cells] at hcs
      obtain ⟨rfl, rfl, rfl⟩ := hcs
      refine .inr ⟨_, rfl, fun i hi => ?_⟩
      simp only [if_true] at hmm
      obtain ⟨hci, hti⟩ := hcell i (by omega)
      rcases Deep.open_slice1 Yba.underlying22 (by kernel_rfl) hti with ⟨hv, _⟩ | ⟨y, l2, c2, _, _, _, _, _, hv, _⟩
      · simp at hv
        exact ⟨_, _, _, by rw [hci, hv]⟩
      · simp at hv
        exact ⟨_, _, _, by rw [hci, hv]⟩
  obtain ⟨a2, rfl, rfl, rfl, w2⟩ := open_string Yba.underlying9 (hval 2 9 v2 rfl rfl) h2
  clear hA0 hval0
  refine (walk a0 a1 len1 cap1 a2 W w1).mono fun e W' ⟨he, bel⟩ => ?_
  subst he
  exact ⟨_, rfl, _, _, _, [], _, [], hW', trodAll_mk1 (shut_bool Yba.underlying4 _), (trodAll_cons_mk (shut_bool Yba.underlying4 _) (trodAll_cons_mk (Below.trod laidOut (by kernel_rfl) (of_decide_eq_true (by kernel_rfl)) k1 bel lt1) (trodAll_cons_mk (shut_string Yba.underlying9 w2) trodAll_mk0))), rfl, bel.frame _, fun h => by cases h⟩

theorem over : Rows.lawS5124BExactRow.holds Yba.pinned (OpenSpec.ofChange Rows.lawS5124BExactSpec) :=
  OpenClaim.holds_of_wide 5 Yba.f5 rfl rfl rfl rfl rfl rfl rfl ⟨rfl, rfl, rfl, rfl, rfl⟩ rfl rfl rfl rfl rfl (by kernel_rfl) Yba.func5 (by kernel_rfl)
    (of_decide_eq_true (by kernel_rfl)) (by unfold Func.isWrapper; first | (rw [if_pos (by decide +kernel)]; kernel_rfl) | (rw [if_neg (by decide +kernel)]; exact ⟨rfl, rfl⟩))
    (fun os started H enc _ => lifted os started H enc)

/-- ████ THE STATEMENT ████ -/
theorem proved : Rows.LawS5124BExactSaid := over
end Go.Proofs.Ybulkdbcc.lawS5124BExact
