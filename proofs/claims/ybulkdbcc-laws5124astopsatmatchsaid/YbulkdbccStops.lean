/-
  LawS5124AStopsAtMatch (4).
-/
import Derived.Test.YbulkdbccFirst
import Derived.Maps.AppendAt
namespace Go.Proofs.Ybulkdbcc
open Go.RowKit

/-- The pointers to the first k credentials of the store. -/
def ptrs (bs k : Nat) : List Value := (List.range k).map fun j => Value.pointer (some ⟨bs, j * 4, none⟩)
theorem ptrs_succ (bs k : Nat) : ptrs bs (k + 1) = ptrs bs k ++ [.pointer (some ⟨bs, k * 4, none⟩)] := by
  simp [ptrs, List.range_succ]
theorem ptrs_get (bs k i : Nat) (h : i < k) : (ptrs bs k)[i]? = some (.pointer (some ⟨bs, i * 4, none⟩)) := by
  simp [ptrs, h]
theorem ptrs_len (bs k : Nat) : (ptrs bs k).length = k := by simp [ptrs]

/-- The first k credentials of the store bear types other than ty. -/
def Others (w : World) (bs k : Nat) (ty : Int) (T : Nat → Int) : Prop := ∀ i, i < k → w.cell? ⟨bs, i * 4, none⟩ = some (.int .u8 (T i)) ∧ T i ≠ ty

theorem Others.step {w : World} {bs k : Nat} {ty z : Int} {T : Nat → Int} (h : Others w bs k ty T) (hz : z ≠ ty) {v : Value} (hc : w.cell? ⟨bs, k * 4, none⟩ = some v) :
    Others (w.setCell ⟨bs, k * 4, none⟩ (.int .u8 z)) bs (k + 1) ty (fun i => if i = k then z else T i) := by
  intro i hi
  by_cases e : i = k
  · subst e
    simp only [if_true]
    exact ⟨World.cell?_setCell_same w _ _ hc, hz⟩
  · simp only [if_neg e]
    rw [World.cell?_setCell_other w _ _ _ (by intro c; injection c with c1 c2; omega)]
    exact h i (by omega)
theorem Others.later {w w' : World} {bs k : Nat} {ty : Int} {T : Nat → Int} (h : Others w bs k ty T) (hb : Below (bs + 1) w w') : Others w' bs k ty T := by
  intro i hi
  rw [hb.cell (p := ⟨bs, i * 4, none⟩) (by show bs < bs + 1; omega)]
  exact h i hi
theorem Others.set {w : World} {bs k : Nat} {ty : Int} {T : Nat → Int} (h : Others w bs k ty T) (v : Value) : Others (w.setCell ⟨bs, k * 4, none⟩ v) bs k ty T := by
  intro i hi
  rw [World.cell?_setCell_other w _ _ _ (by intro c; injection c with c1 c2; omega)]
  exact h i hi

/-- 'creds = append(creds, p)' onto a row of the call's own. -/
theorem wpList_append_ptr {ops : Array Oper} {rest : List Oper} {o : Oper} {a : Act} {Q : Exit → Act → World → Prop} (hgd : o.guard = none) (s x : Operand)
    (ho : o.op = .call { callee := .builtin .append, args := #[s, x], argTypes := #[25, 25] })
    (base : Nat) (v : Value) (n : Nat) (xs : List Value) (hs : a.eval s = v) (w0 : World) (hown : w0.ownsRow base 32 1 v n xs) (p : Value) (hp : p.oneCell' = true)
    (g : Nat) (hg : g = w0.heap.size) (hx : a.eval x = .slice (some ⟨g, 0, none⟩) 1 1) (hn : n ≤ 100000) (hbase : base ≤ w0.heap.size)
    (h : ∀ v' w', w'.ownsRow base 32 1 v' (n + 1) (xs ++ [p]) → Below base w0 w' → v' ≠ .slice none 0 0 → wpList Yba.prog ops Q rest (a.put o.dst v') w') :
    wpList Yba.prog ops Q (o :: rest) a (w0.alloc (.cells #[p] 32)) := by
  obtain ⟨i0, hi0, hz0, hz1, hz2⟩ := info_parts info32
  subst hg
  refine wpList_append_own _ hgd s x 25 ho base 32 i0 (.pointer none) 1 8 Yba.underlying25 hi0 hz0 hz1 hz2 rfl (by decide) v n xs hs (hown.alloc _) ⟨w0.heap.size, 0, none⟩ 1 1 [p] hx rfl (cell_one_new w0 p 32) (by intro u hu; simp at hu; subst hu; exact hp) (by unfold maxLen; omega) (by omega) (by simp; omega) ?_
  intro v' w' h1 h2 h3
  refine h v' w' h1 (((Below.refl _ _).alloc hbase _).grown h2 (by simp; omega) (fun g hg => (hown.lt g hg).1)) ?_
  intro e
  have := (h3.1 e).2
  omega

set_option maxHeartbeats 1000000 in
set_option maxRecDepth 20000 in
theorem stops_walk (a0 : Option Addr) (b off n cap : Nat) (zs : List Int) (ty tl : Int) (w : World) (hn : n ≤ 1024) (ha : 0 < n → a0 = some ⟨b, off, none⟩) (hb : 0 < n → b < w.heap.size)
    (hz : n ≤ zs.length) (hc : Hid (∀ i, i < n → w.cell? ⟨b, off + i, none⟩ = some (.int .u8 (zs.getD i 0)))) (hs0 : 0 ≤ tl) (hs1 : tl < 256) :
    Calls Yba.prog 4 #[.slice a0 n cap, .int .u8 ty, .int .u8 tl] w fun e w' => e = .returned (.bool true) ∧ Below w.heap.size w w' := by
  have hpe := ptr_eql
  have hm24 := make24 (n + 1) (by omega)
  have e1 : ((n + 1 : Nat) : Int) = (n : Int) + 1 := by omega
  rw [e1] at hm24
  go_enter Yba.func4, Yba.ntmps4
  go_wp2_with fail
  clear hm24 e1
  have O1 : Open (w.alloc (.cells (store0 (n + 1)) 31)) w.heap.size 4 (n + 1) := open_new w (store0 (n + 1)) 31 4 (n + 1) (by omega) (size_store0 (n + 1))
  have B0 : Below w.heap.size w (w.alloc (.cells (store0 (n + 1)) 31)) := by go_grown
  have S0 : w.heap.size + 1 ≤ (w.alloc (.cells (store0 (n + 1)) 31)).heap.size := by simp
  generalize (w.alloc (.cells (store0 (n + 1)) 31)) = W0 at O1 B0 S0 ⊢
  go_loopw [9, 10, 11] (fun tv tk ti wr => ∃ (i k : Nat) (T : Nat → Int), i ≤ n ∧ k ≤ i ∧ ti = .int .i64 i ∧ tk = .int .i64 k ∧ wr.ownsRow (w.heap.size + 1) 32 1 tv k (ptrs w.heap.size k) ∧ Open wr w.heap.size 4 (n + 1) ∧ Others wr w.heap.size k ty T ∧ Below w.heap.size w wr ∧ w.heap.size + 1 ≤ wr.heap.size) (fun _ _ ti _ => n - (intOf ti).toNat)
  case atStart => exact ⟨0, 0, fun _ => 0, by omega, by omega, rfl, rfl, World.ownsRow_nil _ _ _ _, O1, fun i hi => absurd hi (by omega), B0, S0⟩
  case round =>
    obtain ⟨i, k, T, hi, hk, rfl, rfl, own, P1, OT, B, SZ⟩ := hrel
    by_cases hlt : i < n
    · have he := ha (by omega)
      subst he
      have hck := (B.cell (p := ⟨b, off + i, none⟩) (hb (by omega))).trans (unhide hc i hlt)
      obtain ⟨z, hzk⟩ : ∃ z, z = zs.getD i 0 := ⟨_, rfl⟩
      rw [← hzk] at hck
      clear hzk
      cases hzt : (z == ty)
      · obtain ⟨⟨v1, c1⟩, f1⟩ := P1 k (by omega)
        have own2 := ownsRow_setCell_below own (a := ⟨w.heap.size, k * 4, none⟩) (by show w.heap.size < w.heap.size + 1; omega) (.int .u8 z)
        have OT2 := OT.step (by simpa using hzt) c1 (z := z)
        have P2 := P1.set ⟨w.heap.size, k * 4, none⟩ (.int .u8 z)
        have B2 := B.setCell (p := ⟨w.heap.size, k * 4, none⟩) (Nat.le_refl _) (.int .u8 z)
        have SZ2 : w.heap.size + 1 ≤ (wr.setCell ⟨w.heap.size, k * 4, none⟩ (.int .u8 z)).heap.size := by simpa using SZ
        go_wp2_with (at_builtin; refine wpList_append_ptr rfl _ _ rfl (w.heap.size + 1) _ _ _ rfl _ own2 _ rfl wr.heap.size (by simp) rfl (by omega) SZ2 ?_)
        · intro v' w1 hown' BA _
          have P3 := P2.later BA
          have OT3 := OT2.later BA
          have B3 := B2.trans (BA.mono (by omega))
          have SZ3 : w.heap.size + 1 ≤ w1.heap.size := Nat.le_trans SZ2 BA.size
          rw [← ptrs_succ] at hown'
          clear BA own own2 P1 P2 OT OT2 B2 SZ2
          go_wp2
          go_roundw
          case rel => exact ⟨i + 1, k + 1, _, by omega, by omega, by go_num, by go_num, hown', P3, OT3, B3, SZ3⟩
          case measure => simp [intOf]; omega
      · go_wp2
        go_roundw
        case rel => exact ⟨i + 1, k, T, by omega, by omega, by go_num, rfl, own, P1, OT, B, SZ⟩
        case measure => simp [intOf]; omega
    · have hin : i = n := by omega
      subst hin
      clear hlt hi O1 B0 S0
      obtain ⟨⟨v1, c1⟩, f1⟩ := P1 k (by omega)
      have own2 := ownsRow_setCell_below own (a := ⟨w.heap.size, k * 4, none⟩) (by show w.heap.size < w.heap.size + 1; omega) (.int .u8 ty)
      have OT2 := OT.set (.int .u8 ty)
      have C2 : (wr.setCell ⟨w.heap.size, k * 4, none⟩ (.int .u8 ty)).cell? ⟨w.heap.size, k * 4, none⟩ = some (.int .u8 ty) := World.cell?_setCell_same wr _ _ c1
      have B2 := B.setCell (p := ⟨w.heap.size, k * 4, none⟩) (Nat.le_refl _) (.int .u8 ty)
      have SZ2 : w.heap.size + 1 ≤ (wr.setCell ⟨w.heap.size, k * 4, none⟩ (.int .u8 ty)).heap.size := by simpa using SZ
      go_wp2_with (at_builtin; refine wpList_append_ptr rfl _ _ rfl (w.heap.size + 1) _ _ _ rfl _ own2 _ rfl wr.heap.size (by simp) rfl (by omega) SZ2 ?_)
      · intro v' w1 hown' BA _
        have OT3 := OT2.later BA
        have C3 : w1.cell? ⟨w.heap.size, k * 4, none⟩ = some (.int .u8 ty) := (BA.cell (p := ⟨w.heap.size, k * 4, none⟩) (by show w.heap.size < w.heap.size + 1; omega)).trans C2
        have B3 := B2.trans (BA.mono (by omega))
        have SZ3 : w.heap.size + 1 ≤ w1.heap.size := Nat.le_trans SZ2 BA.size
        rw [← ptrs_succ] at hown'
        clear BA own own2 P1 OT OT2 B2 SZ2 C2 c1 f1 B SZ
        go_wp2_with fail
        have hm0 : 0 ≤ tl % 8 := by omega
        have hm1 : tl % 8 < 8 := by omega
        generalize tl % 8 = m at hm0 hm1 ⊢
        go_loopw [9, 13] (fun tv tj wr2 => ∃ j : Nat, (j : Int) ≤ m ∧ tj = .int .i64 j ∧ wr2.ownsRow (w.heap.size + 1) 32 1 tv (k + 1 + j) (ptrs w.heap.size (k + 1) ++ List.replicate j (.pointer none)) ∧ Others wr2 w.heap.size k ty T ∧ wr2.cell? ⟨w.heap.size, k * 4, none⟩ = some (.int .u8 ty) ∧ Below w.heap.size w wr2 ∧ w.heap.size + 1 ≤ wr2.heap.size) (fun _ tj _ => (m - intOf tj).toNat)
        case atStart => exact ⟨0, by omega, rfl, by simpa using hown', OT3, C3, B3, SZ3⟩
        case round =>
          obtain ⟨j, hj, rfl, own, OT, C, B, SZ⟩ := hrel
          by_cases hjm : (j : Int) < m
          · go_wp2_with (at_builtin; refine wpList_append_ptr rfl _ _ rfl (w.heap.size + 1) _ _ _ rfl _ own _ rfl wr.heap.size rfl rfl (by omega) SZ ?_)
            · intro v2 w2 hown2 BA _
              have OT4 := OT.later BA
              have C4 : w2.cell? ⟨w.heap.size, k * 4, none⟩ = some (.int .u8 ty) := (BA.cell (p := ⟨w.heap.size, k * 4, none⟩) (by show w.heap.size < w.heap.size + 1; omega)).trans C
              have B4 := B.trans (BA.mono (by omega))
              have SZ4 : w.heap.size + 1 ≤ w2.heap.size := Nat.le_trans SZ BA.size
              rw [← List.replicate_succ'] at hown2
              clear BA own OT C B
              go_wp2
              go_roundw
              case rel => exact ⟨j + 1, by omega, by go_num, hown2, OT4, C4, B4, SZ4⟩
              case measure => simp [intOf]; omega
          · obtain ⟨hl, hv⟩ := id own
            rcases hv with ⟨_, h0⟩ | ⟨g, cp, cur, rfl, hg, hh, hcp, hcm, hcs, htk⟩
            · omega
            have hcell : ∀ i, i ≤ k → wr.cell? ⟨g, i, none⟩ = some (.pointer (some ⟨w.heap.size, i * 4, none⟩)) := by
              intro i hi
              rw [own.cellAt i (by omega), List.getElem?_append_left (by rw [ptrs_len]; omega)]
              exact ptrs_get _ _ _ (by omega)
            go_wp2_with fail
            refine (cred_found g w.heap.size (k + 1 + j) cp ty k (fun i => i * 4) T wr (by omega) (by omega) (hide fun i hi => ⟨hcell i (by omega), (OT i hi).1, (OT i hi).2⟩) ⟨hcell k (Nat.le_refl _), C⟩).mono ?_
            rintro e w' ⟨rfl, rfl⟩
            go_wp2
            go_ret
            exact ⟨rfl, B⟩
end Go.Proofs.Ybulkdbcc
