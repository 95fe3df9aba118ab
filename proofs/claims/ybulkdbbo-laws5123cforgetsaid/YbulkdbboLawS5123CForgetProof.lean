/-
  A PROOF OF 'Rows.LawS5123CForgetSaid' ('example.com/sluice/sluice.LawS5123CForget'): after the shells that the guide's tool writes for her sisters.
  The walk is the prover's; the row's step is the guide's own.
-/
import Derived.Test.YbulkdbboRows
import Derived.Test.YbulkdbboLoop1
import Derived.Test.YbulkdbboAccts
import Derived.WalkKit
import Derived.ProofKit
import Derived.OpenShut
import Derived.ShutString
import Derived.ChangeOld
import Derived.Below
import Derived.Deep.Slices
namespace Go.Proofs.Ybulkdbbo.lawS5123CForget
open Go.ChangeShapes Go.WideShapes Go.ChangeAt Go.RowKit
set_option linter.unusedVariables false

theorem own : ownKnob Yba.prog.godebug = none := by kernel_rfl
theorem laidOut : laidOutB Yba.prog = true := by kernel_rfl

set_option maxRecDepth 20000 in
theorem walk (a0 : Option Addr) (len cap : Nat) (w : World) (h : IsAccts w a0 len) :
    Calls Yba.prog 5 #[.slice a0 len cap] w fun e w' => e = .returned (.bool true) ∧ Below w.heap.size w w' := by
  by_cases hlen : len ≤ 1024
  · by_cases hz : len = 0
    · subst hz
      exact forget_walk a0 0 0 0 cap (fun _ => 0) (fun _ => 0) (fun _ => 0) (fun _ => 0) (fun _ => false) w (by omega) (fun h => absurd h (by omega)) (fun h => absurd h (by omega)) (hide fun i hi => absurd hi (by omega))
    · rcases h with ⟨_, h0⟩ | ⟨x, rfl, hcell⟩
      · exact absurd h0 hz
      · obtain ⟨b, off, spot⟩ := x
        obtain ⟨v, hv⟩ := hcell 0 (by omega)
        have hspot : spot = none := by simpa [Addr.add] using World.cell?_spot hv.1
        subst hspot
        obtain ⟨f, hf⟩ := Deep.choose_lt hcell
        have hb : b < w.heap.size := by
          have := hv.1
          rw [add_plain] at this
          exact cell_lt this
        refine forget_walk (some ⟨b, off, none⟩) b off len cap (fun i => (f i).1) (fun i => (f i).2.1) (fun i => (f i).2.2.1) (fun i => (f i).2.2.2.1) (fun i => (f i).2.2.2.2) w hlen (fun _ => rfl) (fun _ => hb) (hide fun i hi => ?_)
        obtain ⟨h0, h1, h2, h3, h4⟩ := hf i hi
        simp only [add_plain] at h0 h1 h2 h3 h4
        exact ⟨h0, h1, h2, h3, h4⟩
  · go_enter Yba.func5, Yba.ntmps5
    go_wp2
    go_ret
    exact ⟨rfl, Below.refl _ _⟩

/-! ### THE ROW's STEP -/
set_option maxRecDepth 100000 in
theorem lifted (os : Os) (started : os.Started) (H : Type) (enc : TypeId × Value → H) :
    ReturnsInHanded {} Yba.checked os 5 .any (Rows.lawS5123CForgetSpec.pre6 enc Yba.prog Yba.f5 Rows.lawS5123CForgetRow.domain false) (Rows.lawS5123CForgetSpec.post enc Yba.prog Yba.f5 false true false false) := by
  refine returnsInHanded_of_change (C := Yba.checked) own started (by kernel_rfl) Yba.func5
    (ChangeSpec.witness6 (enc := enc) (C := Yba.checked) false ⟨#[], #[.slice none 0 0], []⟩ 8 (by kernel_rfl) (by kernel_rfl) (by kernel_rfl) (by kernel_rfl)) ?_
  intro W base args ds gs before hval0 hW hcnd _
  have hval : ∀ (j : Nat) t v, Yba.f5.params[j]? = some t → args[j]? = some v → Value.okWide Yba.prog W .any base t v := hval0
  have hW' := hW
  obtain ⟨p, q, hA0, hV, rfl, hfz, hnd⟩ := hW
  have hA : DataW.TrodAll enc Yba.prog W 0 (fun _ => true) true Yba.f5.params.toList args.toList ds p := hA0
  rw [Yba.params5] at hA hval
  obtain ⟨v0, vs0, d0, ds0, p0, q0, hargs, rfl, rfl, h0, r0⟩ := trodAll_cons hA
  obtain ⟨rfl, rfl, rfl⟩ := trodAll_nil r0
  obtain rfl : args = #[v0] := by cases args; simp_all
  obtain ⟨rfl, rfl⟩ := trodVars_none hV
  obtain ⟨a0, len0, cap0, rfl⟩ := okWide_slice Yba.underlying33 (hval 0 33 v0 rfl rfl)
  have k0 := h0
  have lt0 : ∀ x ∈ p0, x.block < W.heap.size := by obtain ⟨m, hm⟩ := k0; exact DataW.trod_lt m _ _ _ hm
  have w0 : IsAccts W a0 len0 := by
    obtain ⟨fuel, hf⟩ := h0
    exact accts_of (by simpa [Value.cells] using hf)
  clear hA0 hval0
  refine (walk a0 len0 cap0 W w0).mono fun e W' ⟨he, bel⟩ => ?_
  subst he
  exact ⟨_, rfl, _, _, _, [], _, [], hW', trodAll_mk1 (shut_bool Yba.underlying4 _), (trodAll_cons_mk (Below.trod laidOut (by kernel_rfl) (of_decide_eq_true (by kernel_rfl)) k0 bel lt0) trodAll_mk0), rfl, bel.frame _, fun h => by cases h⟩

theorem over : Rows.lawS5123CForgetRow.holds Yba.pinned (OpenSpec.ofChange Rows.lawS5123CForgetSpec) :=
  OpenClaim.holds_of_wide 5 Yba.f5 rfl rfl rfl rfl rfl rfl rfl ⟨rfl, rfl, rfl, rfl, rfl⟩ rfl rfl rfl rfl rfl (by kernel_rfl) Yba.func5 (by kernel_rfl)
    (of_decide_eq_true (by kernel_rfl)) (by unfold Func.isWrapper; first | (rw [if_pos (by decide +kernel)]; kernel_rfl) | (rw [if_neg (by decide +kernel)]; exact ⟨rfl, rfl⟩))
    (fun os started H enc _ => lifted os started H enc)

/-- ████ THE STATEMENT ████ -/
theorem proved : Rows.LawS5123CForgetSaid := over
end Go.Proofs.Ybulkdbbo.lawS5123CForget
