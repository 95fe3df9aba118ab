/-
  LawS5124BExact (5).
-/
import Derived.Test.YbulkdbccOrder
import Derived.Test.YbulkdbccCred
import Derived.Deep.QuietTactic
import Derived.BigQuiet
namespace Go.Proofs.Ybulkdbcc
open Go.RowKit

theorem cell_two_new (w : World) (x y : Value) (t : TypeId) : ∀ j u, [x, y][j]? = some u → (w.alloc (.cells #[x, y] t)).cell? ((⟨w.heap.size, 0, none⟩ : Addr).add j) = some u := by
  intro j u hj
  match j, hj with
  | 0, hj => simp at hj; subst hj; simp [Addr.add]
  | 1, hj => simp at hj; subst hj; simp [Addr.add]

/-- 'keys = append(keys, trustedKey{..})' onto a row of the call's own. -/
theorem wpList_append_key {ops : Array Oper} {rest : List Oper} {o : Oper} {a : Act} {Q : Exit → Act → World → Prop} (hgd : o.guard = none) (s x : Operand)
    (ho : o.op = .call { callee := .builtin .append, args := #[s, x], argTypes := #[36, 36] })
    (base : Nat) (v : Value) (n : Nat) (xs : List Value) (hs : a.eval s = v) (w0 : World) (hown : w0.ownsRow base 39 2 v n xs) (p q : Value) (hp : p.oneCell' = true) (hq : q.oneCell' = true)
    (g : Nat) (hg : g = w0.heap.size) (hx : a.eval x = .slice (some ⟨g, 0, none⟩) 1 1) (hn : n ≤ 100000) (hbase : base ≤ w0.heap.size)
    (h : ∀ v' w', w'.ownsRow base 39 2 v' (n + 1) (xs ++ [p, q]) → Below base w0 w' → wpList Yba.prog ops Q rest (a.put o.dst v') w') :
    wpList Yba.prog ops Q (o :: rest) a (w0.alloc (.cells #[p, q] 39)) := by
  obtain ⟨i0, hi0, hz0, hz1, hz2⟩ := info_parts info39
  subst hg
  refine wpList_append_own _ hgd s x 36 ho base 39 i0 (.agg #[.nilIface, .slice none 0 0]) 2 40 Yba.underlying36 hi0 hz0 hz1 hz2 rfl (by decide) v n xs hs (hown.alloc _) ⟨w0.heap.size, 0, none⟩ 1 1 [p, q] hx rfl (cell_two_new w0 p q 39) (by intro u hu; simp at hu; rcases hu with rfl | rfl <;> assumption) (by unfold maxLen; omega) (by omega) (by simp; omega) ?_
  intro v' w' h1 h2 h3
  exact h v' w' h1 (((Below.refl _ _).alloc hbase _).grown h2 (by simp; omega) (fun g hg => (hown.lt g hg).1))

theorem same_nil (d : Nat) (w : World) : (Op.equalIn (d + 1) 22 (.slice none 0 0) (.slice none 0 0)).run Yba.prog w = .ok true w := by
  simp [Op.equalIn, run_underlying Yba.underlying22]
theorem other_nil (d : Nat) (a : Addr) (n c : Nat) (w : World) : (Op.equalIn (d + 1) 22 (.slice (some a) n c) (.slice none 0 0)).run Yba.prog w = .ok false w := by
  simp [Op.equalIn, run_underlying Yba.underlying22]
theorem eql_nil (w : World) : (binOp .eql 22 (.slice none 0 0) (.slice none 0 0)).run Yba.prog w = .ok (.bool true) w := by
  simp only [binOp]
  simp [Op.equal, Op.maxDepth, same_nil 9999]
theorem eql_some (a : Addr) (n c : Nat) (w : World) : (binOp .eql 22 (.slice (some a) n c) (.slice none 0 0)).run Yba.prog w = .ok (.bool false) w := by
  simp only [binOp]
  simp [Op.equal, Op.maxDepth, other_nil 9999]

theorem own_slice {w : World} {base e size : Nat} {v : Value} {n : Nat} {xs : List Value} (h : w.ownsRow base e size v n xs) : ∃ ad cap, v = .slice ad n cap := by
  rcases h.2 with ⟨rfl, rfl⟩ | ⟨g, cp, cur, rfl, _⟩
  · exact ⟨_, _, rfl⟩
  · exact ⟨_, _, rfl⟩

set_option maxHeartbeats 1000000 in
set_option maxRecDepth 20000 in
theorem exact_walk (ch : Bool) (a0 : Option Addr) (b off n cap : Nat) (s : ByteArray) (w : World) (hn : n ≤ 1024) (ha : 0 < n → a0 = some ⟨b, off, none⟩) (hb : 0 < n → b < w.heap.size)
    (hc : Hid (∀ i, i < n → ∃ x l c, w.cell? ⟨b, off + i, none⟩ = some (.slice x l c))) :
    Calls Yba.prog 5 #[.bool ch, .slice a0 n cap, .string s] w fun e w' => e = .returned (.bool true) ∧ Below w.heap.size w w' := by
  go_enter Yba.func5, Yba.ntmps5
  go_wp2_with fail
  go_loopw [7, 8] (fun tv ti wr => ∃ (i : Nat) (xs : List Value), i ≤ n ∧ ti = .int .i64 i ∧ wr.ownsRow w.heap.size 39 2 tv i xs ∧ Below w.heap.size w wr) (fun _ ti _ => n - (intOf ti).toNat)
  case atStart => exact ⟨0, [], by omega, rfl, World.ownsRow_nil _ _ _ _, Below.refl _ _⟩
  case round =>
    obtain ⟨i, xs, hi, rfl, own, B⟩ := hrel
    have sz := B.size
    by_cases hlt : i < n
    · have he := ha (by omega)
      subst he
      obtain ⟨x, l, c, hcx⟩ := unhide hc i hlt
      have hck := (B.cell (p := ⟨b, off + i, none⟩) (hb (by omega))).trans hcx
      clear hcx
      go_wp2_with (at_builtin; refine wpList_append_key rfl _ _ rfl w.heap.size _ _ _ rfl _ own _ _ rfl rfl wr.heap.size rfl rfl (by omega) sz ?_)
      intro v' w1 hown' BA
      have B1 := B.trans BA
      clear BA own B sz hck
      go_wp2
      go_roundw
      case rel => exact ⟨i + 1, _, by omega, by go_num, hown', B1⟩
      case measure => simp [intOf]; omega
    · have hin : i = n := by omega
      subst hin
      obtain ⟨ad, kc, rfl⟩ := own_slice own
      go_wp2_with fail
      clear own
      have c0 : (wr.alloc (.cells #[.bool ch, .pointer none, .string s, .slice ad i kc] 43)).cell? ⟨wr.heap.size, 0, none⟩ = some (.bool ch) := by simp
      have c1 : (wr.alloc (.cells #[.bool ch, .pointer none, .string s, .slice ad i kc] 43)).cell? ⟨wr.heap.size, 1, none⟩ = some (.pointer none) := by simp
      have c2 : (wr.alloc (.cells #[.bool ch, .pointer none, .string s, .slice ad i kc] 43)).cell? ⟨wr.heap.size, 2, none⟩ = some (.string s) := by simp
      have c3 : (wr.alloc (.cells #[.bool ch, .pointer none, .string s, .slice ad i kc] 43)).cell? ⟨wr.heap.size, 3, none⟩ = some (.slice ad i kc) := by simp
      have B1 := B.alloc sz (.cells #[.bool ch, .pointer none, .string s, .slice ad i kc] 43)
      have hl : wr.heap.size < (wr.alloc (.cells #[.bool ch, .pointer none, .string s, .slice ad i kc] 43)).heap.size := by simp
      clear B sz
      generalize (wr.alloc (.cells #[.bool ch, .pointer none, .string s, .slice ad i kc] 43)) = W1 at c0 c1 c2 c3 B1 hl ⊢
      refine (certTypes _ i kc ad ch W1 (by unfold maxLen; omega) c0 c3).mono ?_
      rintro e w1 ⟨v, rfl, BA, HA⟩
      have e0 := (BA.cell (p := ⟨wr.heap.size, 0, none⟩) hl).trans c0
      have e1 := (BA.cell (p := ⟨wr.heap.size, 1, none⟩) hl).trans c1
      have e2 := (BA.cell (p := ⟨wr.heap.size, 2, none⟩) hl).trans c2
      have e3 := (BA.cell (p := ⟨wr.heap.size, 3, none⟩) hl).trans c3
      have B2 := B1.trans (BA.mono B1.size)
      have hl1 := Nat.lt_of_lt_of_le hl BA.size
      clear c0 c1 c2 c3 BA B1 hl
      go_wp2_with fail
      refine (expect i ch w1 (by unfold maxLen; omega)).mono ?_
      rintro e w2 ⟨v2, rfl, BB, HB⟩
      have r0 := (BB.cell (p := ⟨wr.heap.size, 0, none⟩) hl1).trans e0
      have r1 := (BB.cell (p := ⟨wr.heap.size, 1, none⟩) hl1).trans e1
      have r2 := (BB.cell (p := ⟨wr.heap.size, 2, none⟩) hl1).trans e2
      have r3 := (BB.cell (p := ⟨wr.heap.size, 3, none⟩) hl1).trans e3
      have B3 := B2.trans (BB.mono B2.size)
      clear e0 e1 e2 e3 B2 hl1
      have q1 := eql_nil
      have q2 := eql_some
      by_cases hk : 0 < i
      · have hk' : decide (0 < i) = true := by simpa using hk
        rw [hk'] at HA HB
        cases ch
        · have hxs : types true false = [.int .u8 2] := rfl
          rw [hxs] at HA HB
          obtain ⟨g, cg, rfl, hg, hgl, hcell⟩ := HA.resolve_left (fun h => absurd h.1 (by simp)) |>.2
          obtain ⟨g2, cg2, rfl, hg2, hgl2, hcell2⟩ := HB.resolve_left (fun h => absurd h.1 (by simp)) |>.2
          have c0 : w2.cell? ⟨g, 0, none⟩ = some (.int .u8 2) := (BB.cell (p := ⟨g, 0, none⟩) hgl).trans (hcell 0 (by simp))
          have d0 : w2.cell? ⟨g2, 0, none⟩ = some (.int .u8 2) := hcell2 0 (by simp)
          clear hcell hcell2
          clear HA HB BB
          go_wp2_with fail
          refine wp_loop_rounds 2 ?_
          rw [rounds_succ]; go_wp2_with fail
          go_quiet (fail)
          go_wp2_with fail
          rw [rounds_succ]; go_wp2_with fail
          go_ret
          exact ⟨rfl, by first | exact B3 | exact (B3.trans ⟨rfl, rfl, rfl, Nat.le_refl _, fun _ _ => rfl⟩)⟩
        · have hxs : types true true = [.int .u8 2, .int .u8 0] := rfl
          rw [hxs] at HA HB
          obtain ⟨g, cg, rfl, hg, hgl, hcell⟩ := HA.resolve_left (fun h => absurd h.1 (by simp)) |>.2
          obtain ⟨g2, cg2, rfl, hg2, hgl2, hcell2⟩ := HB.resolve_left (fun h => absurd h.1 (by simp)) |>.2
          have c0 : w2.cell? ⟨g, 0, none⟩ = some (.int .u8 2) := (BB.cell (p := ⟨g, 0, none⟩) hgl).trans (hcell 0 (by simp))
          have d0 : w2.cell? ⟨g2, 0, none⟩ = some (.int .u8 2) := hcell2 0 (by simp)
          have c1 : w2.cell? ⟨g, 1, none⟩ = some (.int .u8 0) := (BB.cell (p := ⟨g, 1, none⟩) hgl).trans (hcell 1 (by simp))
          have d1 : w2.cell? ⟨g2, 1, none⟩ = some (.int .u8 0) := hcell2 1 (by simp)
          clear hcell hcell2
          clear HA HB BB
          go_wp2_with fail
          refine wp_loop_rounds 3 ?_
          rw [rounds_succ]; go_wp2_with fail
          go_quiet (fail)
          go_wp2_with fail
          rw [rounds_succ]; go_wp2_with fail
          go_quiet (fail)
          go_wp2_with fail
          rw [rounds_succ]; go_wp2_with fail
          go_ret
          exact ⟨rfl, by first | exact B3 | exact (B3.trans ⟨rfl, rfl, rfl, Nat.le_refl _, fun _ _ => rfl⟩)⟩
      · have hk' : decide (0 < i) = false := by simpa using hk
        rw [hk'] at HA HB
        have hn0 : i = 0 := by omega
        subst hn0
        cases ch
        · have hxs : types false false = [] := rfl
          rw [hxs] at HA HB
          obtain ⟨_, rfl⟩ := HA.resolve_right (fun h => h.1 rfl)
          obtain ⟨_, rfl⟩ := HB.resolve_right (fun h => h.1 rfl)
          clear HA HB BB
          go_wp2_with fail
          refine wp_loop_rounds 1 ?_
          rw [rounds_succ]; go_wp2_with fail
          go_ret
          exact ⟨rfl, by first | exact B3 | exact (B3.trans ⟨rfl, rfl, rfl, Nat.le_refl _, fun _ _ => rfl⟩)⟩
        · have hxs : types false true = [.int .u8 0] := rfl
          rw [hxs] at HA HB
          obtain ⟨g, cg, rfl, hg, hgl, hcell⟩ := HA.resolve_left (fun h => absurd h.1 (by simp)) |>.2
          obtain ⟨g2, cg2, rfl, hg2, hgl2, hcell2⟩ := HB.resolve_left (fun h => absurd h.1 (by simp)) |>.2
          have c0 : w2.cell? ⟨g, 0, none⟩ = some (.int .u8 0) := (BB.cell (p := ⟨g, 0, none⟩) hgl).trans (hcell 0 (by simp))
          have d0 : w2.cell? ⟨g2, 0, none⟩ = some (.int .u8 0) := hcell2 0 (by simp)
          clear hcell hcell2
          clear HA HB BB
          go_wp2_with fail
          refine wp_loop_rounds 2 ?_
          rw [rounds_succ]; go_wp2_with fail
          go_quiet (fail)
          go_wp2_with fail
          rw [rounds_succ]; go_wp2_with fail
          go_ret
          exact ⟨rfl, by first | exact B3 | exact (B3.trans ⟨rfl, rfl, rfl, Nat.le_refl _, fun _ _ => rfl⟩)⟩
end Go.Proofs.Ybulkdbcc
