/-
  peerTrust.certTypes (8) and zzs5124bexpect (9).
-/
import Derived.Test.YbulkdbccRows
import Derived.WalkKit
import Derived.WalkSpells
import Derived.Handy
import Derived.Below
import Derived.Maps.AppendAt
namespace Go.Proofs.Ybulkdbcc
open Go.RowKit

theorem info5 : (Yba.prog.info? 5).map (fun i => (i.zero, i.size, i.bytes)) = some (some (.int .u8 0), 1, 1) := by kernel_rfl

/-- 'types = append(types, x)' onto a row of the call's own. -/
theorem wpList_append_u8 {ops : Array Oper} {rest : List Oper} {o : Oper} {a : Act} {Q : Exit → Act → World → Prop} (hgd : o.guard = none) (s x : Operand)
    (ho : o.op = .call { callee := .builtin .append, args := #[s, x], argTypes := #[22, 22] })
    (base : Nat) (v : Value) (n : Nat) (xs : List Value) (hs : a.eval s = v) (w0 : World) (hown : w0.ownsRow base 5 1 v n xs) (p : Value) (hp : p.oneCell' = true)
    (g : Nat) (hg : g = w0.heap.size) (hx : a.eval x = .slice (some ⟨g, 0, none⟩) 1 1) (hn : n ≤ 100000) (hbase : base ≤ w0.heap.size)
    (h : ∀ v' w', w'.ownsRow base 5 1 v' (n + 1) (xs ++ [p]) → Below base w0 w' → v' ≠ .slice none 0 0 → wpList Yba.prog ops Q rest (a.put o.dst v') w') :
    wpList Yba.prog ops Q (o :: rest) a (w0.alloc (.cells #[p] 5)) := by
  obtain ⟨i0, hi0, hz0, hz1, hz2⟩ := info_parts info5
  subst hg
  refine wpList_append_own _ hgd s x 22 ho base 5 i0 (.int .u8 0) 1 1 Yba.underlying22 hi0 hz0 hz1 hz2 rfl (by decide) v n xs hs (hown.alloc _) ⟨w0.heap.size, 0, none⟩ 1 1 [p] hx rfl (cell_one_new w0 p 5) (by intro u hu; simp at hu; subst hu; exact hp) (by unfold maxLen; omega) (by omega) (by simp; omega) ?_
  intro v' w' h1 h2 h3
  refine h v' w' h1 (((Below.refl _ _).alloc hbase _).grown h2 (by simp; omega) (fun g hg => (hown.lt g hg).1)) ?_
  intro e
  have := (h3.1 e).2
  omega

/-- What both answer: nil, or a row of the call's own with these types. -/
def Answer (w w' : World) (v : Value) (xs : List Value) : Prop :=
  Below w.heap.size w w' ∧ ((xs = [] ∧ v = .slice none 0 0) ∨ (xs ≠ [] ∧ ∃ g cap, v = .slice (some ⟨g, 0, none⟩) xs.length cap ∧ w.heap.size ≤ g ∧ g < w'.heap.size ∧ ∀ i, i < xs.length → w'.cell? ⟨g, i, none⟩ = xs[i]?))

theorem answer_nil (w : World) : Answer w w (.slice none 0 0) [] := ⟨Below.refl _ _, .inl ⟨rfl, rfl⟩⟩
theorem answer_own {w w' : World} {v : Value} {xs : List Value} (hb : Below w.heap.size w w') (ho : w'.ownsRow w.heap.size 5 1 v xs.length xs) (hx : xs ≠ []) : Answer w w' v xs := by
  refine ⟨hb, .inr ⟨hx, ?_⟩⟩
  have hv := ho.2
  rcases hv with ⟨_, h0⟩ | ⟨g, cp, cur, rfl, hg, hh, hcp, hcm, hcs, htk⟩
  · exact absurd (List.length_eq_zero_iff.1 h0) hx
  · refine ⟨g, cp, rfl, hg, ?_, fun i hi => ho.cellAt i (by omega)⟩
    by_cases h : g < w'.heap.size
    · exact h
    · have e : w'.heap[g]? = none := by simp; omega
      rw [e] at hh
      cases hh

def types (keys chains : Bool) : List Value := (if keys then [.int .u8 2] else []) ++ (if chains then [.int .u8 0] else [])

set_option maxHeartbeats 400000 in
theorem certTypes (b n cap : Nat) (ad : Option Addr) (ch : Bool) (w : World) (_hn : n ≤ maxLen) (h0 : w.cell? ⟨b, 0, none⟩ = some (.bool ch)) (h3 : w.cell? ⟨b, 3, none⟩ = some (.slice ad n cap)) :
    Calls Yba.prog 8 #[.pointer (some ⟨b, 0, none⟩)] w fun e w' => ∃ v, e = .returned v ∧ Answer w w' v (types (decide (0 < n)) ch) := by
  have hbl : b < w.heap.size := by
    unfold World.cell? at h0
    by_cases hb : b < w.heap.size
    · exact hb
    · have e : w.heap[b]? = none := by simp; omega
      simp [e] at h0
  unfold maxLen at _hn
  by_cases hk : 0 < n
  · have hk' : decide (0 < n) = true := by simpa using hk
    rw [hk']
    cases ch
    · go_enter Yba.func8, Yba.ntmps8
      go_wp2_with (at_builtin; refine wpList_append_u8 rfl _ _ rfl w.heap.size _ _ _ rfl _ (World.ownsRow_nil _ _ _ _) _ rfl w.heap.size rfl rfl (by omega) (Nat.le_refl _) ?_)
      intro v' w1 hown' BA _
      have c0 : w1.cell? ⟨b, 0, none⟩ = some (.bool false) := (BA.cell (p := ⟨b, 0, none⟩) hbl).trans h0
      go_wp2
      go_ret
      exact ⟨_, rfl, answer_own BA (xs := [.int .u8 2]) (by simpa using hown') (by simp)⟩
    · go_enter Yba.func8, Yba.ntmps8
      go_wp2_with (at_builtin; refine wpList_append_u8 rfl _ _ rfl w.heap.size _ _ _ rfl _ (World.ownsRow_nil _ _ _ _) _ rfl w.heap.size rfl rfl (by omega) (Nat.le_refl _) ?_)
      intro v' w1 hown' BA _
      have c0 : w1.cell? ⟨b, 0, none⟩ = some (.bool true) := (BA.cell (p := ⟨b, 0, none⟩) hbl).trans h0
      have sz := BA.size
      go_wp2_with (at_builtin; refine wpList_append_u8 rfl _ _ rfl w.heap.size _ _ _ rfl _ hown' _ rfl w1.heap.size rfl rfl (by omega) sz ?_)
      intro v2 w2 hown2 BB _
      go_wp2
      go_ret
      exact ⟨_, rfl, answer_own (BA.trans BB) (xs := [.int .u8 2, .int .u8 0]) (by simpa using hown2) (by simp)⟩
  · have hk' : decide (0 < n) = false := by simpa using hk
    rw [hk']
    cases ch
    · go_enter Yba.func8, Yba.ntmps8
      go_wp2
      go_ret
      exact ⟨_, rfl, answer_nil w⟩
    · go_enter Yba.func8, Yba.ntmps8
      go_wp2_with (at_builtin; refine wpList_append_u8 rfl _ _ rfl w.heap.size _ _ _ rfl _ (World.ownsRow_nil _ _ _ _) _ rfl w.heap.size rfl rfl (by omega) (Nat.le_refl _) ?_)
      intro v' w1 hown' BA _
      go_wp2
      go_ret
      exact ⟨_, rfl, answer_own BA (xs := [.int .u8 0]) (by simpa using hown') (by simp)⟩

set_option maxHeartbeats 400000 in
theorem expect (n : Nat) (ch : Bool) (w : World) (_hn : n ≤ maxLen) :
    Calls Yba.prog 9 #[.int .i64 n, .bool ch] w fun e w' => ∃ v, e = .returned v ∧ Answer w w' v (types (decide (0 < n)) ch) := by
  unfold maxLen at _hn
  by_cases hk : 0 < n
  · have hk' : decide (0 < n) = true := by simpa using hk
    rw [hk']
    cases ch
    · go_enter Yba.func9, Yba.ntmps9
      go_wp2_with (at_builtin; refine wpList_append_u8 rfl _ _ rfl w.heap.size _ _ _ rfl _ (World.ownsRow_nil _ _ _ _) _ rfl w.heap.size rfl rfl (by omega) (Nat.le_refl _) ?_)
      intro v' w1 hown' BA _
      go_wp2
      go_ret
      exact ⟨_, rfl, answer_own BA (xs := [.int .u8 2]) (by simpa using hown') (by simp)⟩
    · go_enter Yba.func9, Yba.ntmps9
      go_wp2_with (at_builtin; refine wpList_append_u8 rfl _ _ rfl w.heap.size _ _ _ rfl _ (World.ownsRow_nil _ _ _ _) _ rfl w.heap.size rfl rfl (by omega) (Nat.le_refl _) ?_)
      intro v' w1 hown' BA _
      have sz := BA.size
      go_wp2_with (at_builtin; refine wpList_append_u8 rfl _ _ rfl w.heap.size _ _ _ rfl _ hown' _ rfl w1.heap.size rfl rfl (by omega) sz ?_)
      intro v2 w2 hown2 BB _
      go_wp2
      go_ret
      exact ⟨_, rfl, answer_own (BA.trans BB) (xs := [.int .u8 2, .int .u8 0]) (by simpa using hown2) (by simp)⟩
  · have hk' : decide (0 < n) = false := by simpa using hk
    rw [hk']
    cases ch
    · go_enter Yba.func9, Yba.ntmps9
      go_wp2
      go_ret
      exact ⟨_, rfl, answer_nil w⟩
    · go_enter Yba.func9, Yba.ntmps9
      go_wp2_with (at_builtin; refine wpList_append_u8 rfl _ _ rfl w.heap.size _ _ _ rfl _ (World.ownsRow_nil _ _ _ _) _ rfl w.heap.size rfl rfl (by omega) (Nat.le_refl _) ?_)
      intro v' w1 hown' BA _
      go_wp2
      go_ret
      exact ⟨_, rfl, answer_own BA (xs := [.int .u8 0]) (by simpa using hown') (by simp)⟩
end Go.Proofs.Ybulkdbcc
