/-
  THE SHELL OF A PROOF OF 'Rows.LawS5123ASmallSaid' ('example.com/sluice/sluice.LawS5123ASmall'), WRITTEN BY PROGRAM (proof-skeleton.mjs) off the guide's own print for that function. Not trusted: Lean checks it.
  The walk is the prover's; the row's step is the guide's, with 'Below' in the place of 'Grown'.
-/
import Derived.Test.YbulkdbboRows
import Derived.Test.YbulkdbboBump
import Derived.Test.YbulkdbboEq
import Derived.WalkKit
import Derived.ProofKit
import Derived.OpenShut
import Derived.ShutString
namespace Go.Proofs.Ybulkdbbo.lawS5123ASmall
open Go.Lib
open Go.ChangeShapes Go.WideShapes Go.ChangeAt Go.RowKit
open Go.ChangeMaps (open_string shut_string)
set_option linter.unusedVariables false      -- a walk need not use every 'w<i>' (that an integer argument fits its kind)

theorem own : ownKnob Yba.prog.godebug = none := by kernel_rfl

theorem word_of {x : Int} (h : (Lit.int .u64 x).wf = true) : Word x := by
  simp [Lit.wf, IntKind.min, IntKind.max, IntKind.signed, IntKind.bits] at h
  exact ⟨h.1, by omega⟩

/-- The plain law: within the bounds bump's four words are plain uint64 arithmetic. -/
theorem small {x m s0 s1 s2 s3 : Int} {o : Bool} (wx : Word x) (wm : Word m) (h1 : x ≤ 1099511627776) (h2 : m ≤ 65536) (u0 : Word s0) (u1 : Word s1) (u2 : Word s2) (u3 : Word s3) (HB : Bumped x 0 0 0 m s0 s1 s2 s3 o) :
    IntKind.u64.wrap ((IntKind.u64.wrap (IntKind.u64.wrap (x * IntKind.u64.wrap (100 + m)) + 99)).tdiv 100) = s0 ∧ s1 = 0 ∧ s2 = 0 ∧ s3 = 0 ∧ o = false := by
  obtain ⟨x0, x1⟩ := wx
  obtain ⟨m0, m1⟩ := wm
  obtain ⟨a0, a1⟩ := u0; obtain ⟨b0, b1⟩ := u1; obtain ⟨c0, c1⟩ := u2; obtain ⟨d0, d1⟩ := u3
  have g1 : IntKind.u64.wrap (100 + m) = 100 + m := by rw [IntKind.wrap_u64]; omega
  have g2 : x * (100 + m) = x * 100 + x * m := Int.mul_add x 100 m
  have g3 : x * m ≤ 1099511627776 * 65536 := Int.mul_le_mul h1 h2 m0 (by omega)
  have g4 : 0 ≤ x * m := Int.mul_nonneg x0 m0
  obtain ⟨t, z, ht, hz0, hz1, e, ho⟩ := HB
  rw [g1, g2]
  unfold num4 at e
  simp only [Int.zero_mul] at e
  generalize x * m = p at g3 g4 e
  have ht0 : t = 0 := by omega
  subst ht0
  have e3 : s3 = 0 := by omega
  have e2 : s2 = 0 := by omega
  have e1 : s1 = 0 := by omega
  have g5 : IntKind.u64.wrap (x * 100 + p) = x * 100 + p := by rw [IntKind.wrap_u64]; omega
  have g6 : IntKind.u64.wrap (x * 100 + p + 99) = x * 100 + p + 99 := by rw [IntKind.wrap_u64]; omega
  rw [g5, g6, Int.tdiv_eq_ediv_of_nonneg (by omega), IntKind.wrap_u64]
  refine ⟨by omega, e1, e2, e3, ?_⟩
  rw [ho]; rfl

/-! ### STEP 1: THE WALK: the Go text returns true. 'Grown w w'': the world has at most new blocks (Derived/RowKit3.lean). Part the cases AHEAD of 'go_enter' where a test parts the walk; take each callee by a contract of your own. -/
set_option maxHeartbeats 400000 in
theorem walk (a0 : Int) (a1 : Int) (w0 : (Lit.int .u64 a0).wf = true) (w1 : (Lit.int .u64 a1).wf = true) (w : World) :
    Calls Yba.prog 4 #[.int .u64 a0, .int .u64 a1] w fun e w' => e = .returned (.bool true) ∧ Below w.heap.size w w' := by
  by_cases h1 : a0 ≤ 1099511627776
  · by_cases h2 : a1 ≤ 65536
    · have wx : Word a0 := word_of w0
      have wm : Word a1 := word_of w1
      go_enter Yba.func4, Yba.ntmps4
      go_wp2_with fail
      refine (newAmount a0 _).mono ?_
      rintro e v1 ⟨rfl, hb1⟩
      go_wp2_with fail
      refine (amount_bump a0 0 0 0 a1 wx word0 word0 word0 wm _).mono ?_
      rintro e v2 ⟨s0, s1, s2, s3, o, rfl, u0, u1, u2, u3, HB, hb2⟩
      clear w0 w1
      go_upto_region 5 with fail
      obtain ⟨e0, rfl, rfl, rfl, rfl⟩ := small wx wm h1 h2 u0 u1 u2 u3 HB
      simp only [e0]
      clear e0 h1 h2 HB
      have q1 := equal4 s0 0 0 0
      have q2 := eql4 s0 0 0 0
      have q3 := guard23
      go_wp2
      go_ret
      refine ⟨rfl, ?_⟩
      have B2 := hb1.trans (hb2.mono hb1.size)
      exact B2.alloc B2.size _
    · go_enter Yba.func4, Yba.ntmps4
      go_wp2
      go_ret
      exact ⟨rfl, Below.refl _ _⟩
  · go_enter Yba.func4, Yba.ntmps4
    go_wp2
    go_ret
    exact ⟨rfl, Below.refl _ _⟩

/-! ### THE ROW's STEP -/
set_option maxRecDepth 100000 in
theorem lifted (os : Os) (started : os.Started) (H : Type) (enc : TypeId × Value → H) :
    ReturnsInHanded {} Yba.checked os 4 .any (Rows.lawS5123ASmallSpec.pre6 enc Yba.prog Yba.f4 Rows.lawS5123ASmallRow.domain false) (Rows.lawS5123ASmallSpec.post enc Yba.prog Yba.f4 false true false false) := by
  refine returnsInHanded_of_change (C := Yba.checked) own started (by kernel_rfl) Yba.func4
    (ChangeSpec.witness6 (enc := enc) (C := Yba.checked) false ⟨#[], #[.int .u64 0, .int .u64 0], []⟩ 8 (by kernel_rfl) (by kernel_rfl) (by kernel_rfl) (by kernel_rfl)) ?_
  intro W base args ds gs before hval0 hW hcnd _
  have hval : ∀ (j : Nat) t v, Yba.f4.params[j]? = some t → args[j]? = some v → Value.okWide Yba.prog W .any base t v := hval0
  have hW' := hW
  obtain ⟨p, q, hA0, hV, rfl, hfz, hnd⟩ := hW
  have hA : DataW.TrodAll enc Yba.prog W 0 (fun _ => true) true Yba.f4.params.toList args.toList ds p := hA0
  rw [Yba.params4] at hA hval
  obtain ⟨v0, vs0, d0, ds0, p0, q0, hargs, rfl, rfl, h0, r0⟩ := trodAll_cons hA
  obtain ⟨v1, vs1, d1, ds1, p1, q1, rfl, rfl, rfl, h1, r1⟩ := trodAll_cons r0
  obtain ⟨rfl, rfl, rfl⟩ := trodAll_nil r1
  obtain rfl : args = #[v0, v1] := by cases args; simp_all
  obtain ⟨rfl, rfl⟩ := trodVars_none hV
  obtain ⟨a0, rfl, rfl, rfl, w0⟩ := open_int Yba.underlying22 (hval 0 22 v0 rfl rfl) h0
  obtain ⟨a1, rfl, rfl, rfl, w1⟩ := open_int Yba.underlying22 (hval 1 22 v1 rfl rfl) h1
  clear hA0 hval0
  simp only [List.append_nil] at hW'
  refine (walk a0 a1 w0 w1 W).mono fun e W' ⟨he, bel⟩ => ?_
  subst he
  exact ⟨_, rfl, _, _, _, [], _, [], hW', trodAll_mk1 (shut_bool Yba.underlying4 _), (trodAll_cons_mk (shut_int Yba.underlying22 w0) (trodAll_cons_mk (shut_int Yba.underlying22 w1) trodAll_mk0)), rfl, bel.frame _, fun h => by cases h⟩

theorem over : Rows.lawS5123ASmallRow.holds Yba.pinned (OpenSpec.ofChange Rows.lawS5123ASmallSpec) :=
  OpenClaim.holds_of_wide 4 Yba.f4 rfl rfl rfl rfl rfl rfl rfl ⟨rfl, rfl, rfl, rfl, rfl⟩ rfl rfl rfl rfl rfl (by kernel_rfl) Yba.func4 (by kernel_rfl)
    (of_decide_eq_true (by kernel_rfl)) (by unfold Func.isWrapper; first | (rw [if_pos (by decide +kernel)]; kernel_rfl) | (rw [if_neg (by decide +kernel)]; exact ⟨rfl, rfl⟩))
    (fun os started H enc _ => lifted os started H enc)

/-- ████ THE STATEMENT ████ -/
theorem proved : Rows.LawS5123ASmallSaid :=
  over
end Go.Proofs.Ybulkdbbo.lawS5123ASmall
