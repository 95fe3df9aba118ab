/-
  THE SHELL OF A PROOF OF 'Rows.LawS5123AModelSaid' ('example.com/sluice/sluice.LawS5123AModel'), WRITTEN BY PROGRAM (proof-skeleton.mjs) off the guide's own print for that function. Not trusted: Lean checks it.
  The walk is the prover's; the row's step is the guide's, with 'Below' in the place of 'Grown'.
-/
import Derived.Test.YbulkdbboRows
import Derived.Test.YbulkdbboBump
import Derived.Test.YbulkdbboEq
import Derived.Test.YbulkdbboModel
import Derived.WalkKit
import Derived.ProofKit
import Derived.OpenShut
import Derived.ShutString
namespace Go.Proofs.Ybulkdbbo.lawS5123AModel
open Go.Lib
open Go.ChangeShapes Go.WideShapes Go.ChangeAt Go.RowKit
open Go.ChangeMaps (open_string shut_string)
set_option linter.unusedVariables false      -- a walk need not use every 'w<i>' (that an integer argument fits its kind)

theorem own : ownKnob Yba.prog.godebug = none := by kernel_rfl

theorem word_of {x : Int} (h : (Lit.int .u64 x).wf = true) : Word x := by
  simp [Lit.wf, IntKind.min, IntKind.max, IntKind.signed, IntKind.bits] at h
  exact ⟨h.1, by omega⟩

/-- The plain law: both answers are one and the same number rounded up. -/
theorem same {a0 a1 a2 a3 m s0 s1 s2 s3 t0 t1 t2 t3 : Int} {o o2 : Bool} (u0 : Word s0) (u1 : Word s1) (u2 : Word s2) (u3 : Word s3) (y0 : Word t0) (y1 : Word t1) (y2 : Word t2) (y3 : Word t3)
    (HB : Bumped a0 a1 a2 a3 m s0 s1 s2 s3 o) (HM : Modelled a0 a1 a2 a3 m t0 t1 t2 t3 o2) : s0 = t0 ∧ s1 = t1 ∧ s2 = t2 ∧ s3 = t3 ∧ o = o2 := by
  obtain ⟨t, z, ht, hz0, hz1, e, ho⟩ := HB
  obtain ⟨t', z', ht', hz0', hz1', e', ho'⟩ := HM
  obtain ⟨_, _⟩ := u0; obtain ⟨_, _⟩ := u1; obtain ⟨_, _⟩ := u2; obtain ⟨_, _⟩ := u3
  obtain ⟨_, _⟩ := y0; obtain ⟨_, _⟩ := y1; obtain ⟨_, _⟩ := y2; obtain ⟨_, _⟩ := y3
  have f : num4 s0 s1 s2 s3 + t * 115792089237316195423570985008687907853269984665640564039457584007913129639936 = num4 t0 t1 t2 t3 + t' * 115792089237316195423570985008687907853269984665640564039457584007913129639936 := by omega
  clear e e'
  unfold num4 at f
  have e0 : s0 = t0 := by omega
  have e1 : s1 = t1 := by omega
  have e2 : s2 = t2 := by omega
  have e3 : s3 = t3 := by omega
  have et : t = t' := by omega
  exact ⟨e0, e1, e2, e3, by rw [ho, ho', et]⟩

/-! ### STEP 1: THE WALK: the Go text returns true. 'Grown w w'': the world has at most new blocks (Derived/RowKit3.lean). Part the cases AHEAD of 'go_enter' where a test parts the walk; take each callee by a contract of your own. -/
set_option maxHeartbeats 1000000 in
theorem walk (a0 : Int) (a1 : Int) (a2 : Int) (a3 : Int) (a4 : Int) (w0 : (Lit.int .u64 a0).wf = true) (w1 : (Lit.int .u64 a1).wf = true) (w2 : (Lit.int .u64 a2).wf = true) (w3 : (Lit.int .u64 a3).wf = true) (w4 : (Lit.int .u64 a4).wf = true) (w : World) :
    Calls Yba.prog 3 #[.int .u64 a0, .int .u64 a1, .int .u64 a2, .int .u64 a3, .int .u64 a4] w fun e w' => e = .returned (.bool true) ∧ Below w.heap.size w w' := by
  have x0 : Word a0 := word_of w0
  have x1 : Word a1 := word_of w1
  have x2 : Word a2 := word_of w2
  have x3 : Word a3 := word_of w3
  have x4 : Word a4 := word_of w4
  clear w0 w1 w2 w3 w4
  go_enter Yba.func3, Yba.ntmps3
  go_wp2_with fail
  have FA := Four.new w a0 a1 a2 a3 25
  have B0 : Below w.heap.size w (w.alloc (.cells #[.int .u64 a0, .int .u64 a1, .int .u64 a2, .int .u64 a3] 25)) := by go_grown
  refine (amount_bump a0 a1 a2 a3 a4 x0 x1 x2 x3 x4 _).mono ?_
  rintro e v1 ⟨s0, s1, s2, s3, o, rfl, u0, u1, u2, u3, HB, hb1⟩
  have FA1 := FA.later hb1
  have B1 := B0.trans (hb1.mono B0.size)
  clear FA B0 hb1
  go_wp2_with fail
  have FA2 := FA1.alloc (.cells #[.int .u64 s0, .int .u64 s1, .int .u64 s2, .int .u64 s3] 25)
  have FS2 := Four.new v1 s0 s1 s2 s3 25
  have B2 := B1.alloc B1.size (.cells #[.int .u64 s0, .int .u64 s1, .int .u64 s2, .int .u64 s3] 25)
  refine (model a0 a1 a2 a3 a4 x0 x1 x2 x3 x4 _).mono ?_
  rintro e v2 ⟨t0, t1, t2, t3, o2, rfl, y0, y1, y2, y3, HM, hb2⟩
  have FA3 := FA2.later hb2
  have FS3 := FS2.later hb2
  have B3 := B2.trans (hb2.mono B2.size)
  obtain ⟨rfl, rfl, rfl, rfl, rfl⟩ := same u0 u1 u2 u3 y0 y1 y2 y3 HB HM
  have l1 := FA3.lt
  have l2 := FS3.lt
  clear FA1 FA2 FS2 B1 B2 hb2 HB HM
  obtain ⟨⟨ca0, ca1, ca2, ca3⟩, -⟩ := FA3
  obtain ⟨⟨cs0, cs1, cs2, cs3⟩, -⟩ := FS3
  have q1 := equal4 s0 s1 s2 s3
  have q2 := eql4 s0 s1 s2 s3
  have q3 := guard23
  have q4 := equal4 a0 a1 a2 a3
  have q5 := eql4 a0 a1 a2 a3
  go_wp2_with fail
  go_ret
  exact ⟨rfl, B3.alloc B3.size _⟩

/-! ### THE ROW's STEP -/
set_option maxRecDepth 100000 in
theorem lifted (os : Os) (started : os.Started) (H : Type) (enc : TypeId × Value → H) :
    ReturnsInHanded {} Yba.checked os 3 .any (Rows.lawS5123AModelSpec.pre6 enc Yba.prog Yba.f3 Rows.lawS5123AModelRow.domain false) (Rows.lawS5123AModelSpec.post enc Yba.prog Yba.f3 false true false false) := by
  refine returnsInHanded_of_change (C := Yba.checked) own started (by kernel_rfl) Yba.func3
    (ChangeSpec.witness6 (enc := enc) (C := Yba.checked) false ⟨#[], #[.int .u64 0, .int .u64 0, .int .u64 0, .int .u64 0, .int .u64 0], []⟩ 8 (by kernel_rfl) (by kernel_rfl) (by kernel_rfl) (by kernel_rfl)) ?_
  intro W base args ds gs before hval0 hW hcnd _
  have hval : ∀ (j : Nat) t v, Yba.f3.params[j]? = some t → args[j]? = some v → Value.okWide Yba.prog W .any base t v := hval0
  have hW' := hW
  obtain ⟨p, q, hA0, hV, rfl, hfz, hnd⟩ := hW
  have hA : DataW.TrodAll enc Yba.prog W 0 (fun _ => true) true Yba.f3.params.toList args.toList ds p := hA0
  rw [Yba.params3] at hA hval
  obtain ⟨v0, vs0, d0, ds0, p0, q0, hargs, rfl, rfl, h0, r0⟩ := trodAll_cons hA
  obtain ⟨v1, vs1, d1, ds1, p1, q1, rfl, rfl, rfl, h1, r1⟩ := trodAll_cons r0
  obtain ⟨v2, vs2, d2, ds2, p2, q2, rfl, rfl, rfl, h2, r2⟩ := trodAll_cons r1
  obtain ⟨v3, vs3, d3, ds3, p3, q3, rfl, rfl, rfl, h3, r3⟩ := trodAll_cons r2
  obtain ⟨v4, vs4, d4, ds4, p4, q4, rfl, rfl, rfl, h4, r4⟩ := trodAll_cons r3
  obtain ⟨rfl, rfl, rfl⟩ := trodAll_nil r4
  obtain rfl : args = #[v0, v1, v2, v3, v4] := by cases args; simp_all
  obtain ⟨rfl, rfl⟩ := trodVars_none hV
  obtain ⟨a0, rfl, rfl, rfl, w0⟩ := open_int Yba.underlying22 (hval 0 22 v0 rfl rfl) h0
  obtain ⟨a1, rfl, rfl, rfl, w1⟩ := open_int Yba.underlying22 (hval 1 22 v1 rfl rfl) h1
  obtain ⟨a2, rfl, rfl, rfl, w2⟩ := open_int Yba.underlying22 (hval 2 22 v2 rfl rfl) h2
  obtain ⟨a3, rfl, rfl, rfl, w3⟩ := open_int Yba.underlying22 (hval 3 22 v3 rfl rfl) h3
  obtain ⟨a4, rfl, rfl, rfl, w4⟩ := open_int Yba.underlying22 (hval 4 22 v4 rfl rfl) h4
  clear hA0 hval0
  simp only [List.append_nil] at hW'
  refine (walk a0 a1 a2 a3 a4 w0 w1 w2 w3 w4 W).mono fun e W' ⟨he, bel⟩ => ?_
  subst he
  exact ⟨_, rfl, _, _, _, [], _, [], hW', trodAll_mk1 (shut_bool Yba.underlying4 _), (trodAll_cons_mk (shut_int Yba.underlying22 w0) (trodAll_cons_mk (shut_int Yba.underlying22 w1) (trodAll_cons_mk (shut_int Yba.underlying22 w2) (trodAll_cons_mk (shut_int Yba.underlying22 w3) (trodAll_cons_mk (shut_int Yba.underlying22 w4) trodAll_mk0))))), rfl, bel.frame _, fun h => by cases h⟩

theorem over : Rows.lawS5123AModelRow.holds Yba.pinned (OpenSpec.ofChange Rows.lawS5123AModelSpec) :=
  OpenClaim.holds_of_wide 3 Yba.f3 rfl rfl rfl rfl rfl rfl rfl ⟨rfl, rfl, rfl, rfl, rfl⟩ rfl rfl rfl rfl rfl (by kernel_rfl) Yba.func3 (by kernel_rfl)
    (of_decide_eq_true (by kernel_rfl)) (by unfold Func.isWrapper; first | (rw [if_pos (by decide +kernel)]; kernel_rfl) | (rw [if_neg (by decide +kernel)]; exact ⟨rfl, rfl⟩))
    (fun os started H enc _ => lifted os started H enc)

/-- ████ THE STATEMENT ████ -/
theorem proved : Rows.LawS5123AModelSaid :=
  over
end Go.Proofs.Ybulkdbbo.lawS5123AModel
