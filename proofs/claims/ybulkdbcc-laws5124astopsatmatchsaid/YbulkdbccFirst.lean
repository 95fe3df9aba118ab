/-
  LawS5124AFirstMatch (3).
-/
import Derived.Test.YbulkdbccMake
import Derived.Deep.DeepCutAuto
import Derived.LaidEqlPtr
namespace Go.Proofs.Ybulkdbcc
open Go.RowKit

theorem tmod_lt (sel : Int) (n : Nat) (hn : 0 < n) : 0 ≤ (sel / 2) % (n : Int) ∧ (sel / 2) % (n : Int) < n ∧ ((sel / 2) % (n : Int)).toNat < n := by
  have h1 : 0 ≤ (sel / 2) % (n : Int) := Int.emod_nonneg _ (by omega)
  have h2 : (sel / 2) % (n : Int) < n := Int.emod_lt_of_pos _ (by omega)
  exact ⟨h1, h2, by omega⟩

theorem same_ptr (d : Nat) (a : Addr) (w : World) : (Op.equalIn (d + 1) 32 (.pointer (some a)) (.pointer (some a))).run Yba.prog w = .ok true w := by
  obtain ⟨i, hi, hz⟩ := Option.map_eq_some_iff.1 info31
  simp [Op.equalIn, run_underlying Yba.underlying32, sizeOf, typeInfo, hi, run_sameAddr_same]
theorem ptr_eql (a : Addr) (w : World) : (binOp .eql 32 (.pointer (some a)) (.pointer (some a))).run Yba.prog w = .ok (.bool true) w := by
  simp only [binOp]
  simp [Op.equal, Op.maxDepth, same_ptr 9999]
theorem ptr_neq (a : Addr) (w : World) : (binOp .neq 32 (.pointer (some a)) (.pointer (some a))).run Yba.prog w = .ok (.bool false) w := by
  simp only [binOp]
  simp [Op.equal, Op.maxDepth, same_ptr 9999]

theorem below_drawn {B : Nat} {a w : World} (h : Below B a w) (n : Nat) : Below B a (w.drewN n) := h.trans ⟨rfl, rfl, rfl, Nat.le_refl _, fun _ _ => rfl⟩

/-- The first place of the value among the first n, or n. -/
theorem first_idx (zs : List Int) (t : Int) : ∀ n : Nat, ∃ f, f ≤ n ∧ (∀ i, i < f → zs.getD i 0 ≠ t) ∧ (f < n → zs.getD f 0 = t)
  | 0 => ⟨0, Nat.le_refl _, fun i hi => absurd hi (by omega), fun h => absurd h (by omega)⟩
  | n + 1 => by
    obtain ⟨f, h1, h2, h3⟩ := first_idx zs t n
    by_cases hf : f < n
    · exact ⟨f, by omega, h2, fun _ => h3 hf⟩
    · have e : f = n := by omega
      subst e
      by_cases ht : zs.getD f 0 = t
      · exact ⟨f, by omega, h2, fun _ => ht⟩
      · refine ⟨f + 1, Nat.le_refl _, fun i hi => ?_, fun h => absurd h (by omega)⟩
        by_cases ei : i = f
        · subst ei; exact ht
        · exact h2 i (by omega)

set_option maxHeartbeats 1000000 in
set_option maxRecDepth 20000 in
theorem first_walk (a0 : Option Addr) (b off n cap : Nat) (zs : List Int) (ty sel : Int) (w : World) (hn : n ≤ 1024) (ha : 0 < n → a0 = some ⟨b, off, none⟩) (hb : 0 < n → b < w.heap.size)
    (hz : n ≤ zs.length) (hc : Hid (∀ i, i < n → w.cell? ⟨b, off + i, none⟩ = some (.int .u8 (zs.getD i 0)))) (hs0 : 0 ≤ sel) (hs1 : sel < 18446744073709551616) :
    Calls Yba.prog 3 #[.slice a0 n cap, .int .u8 ty, .int .u64 sel] w fun e w' => e = .returned (.bool true) ∧ Below w.heap.size w w' := by
  have hpe := ptr_eql
  have hpn := ptr_neq
  have hm24 := make24 n (by omega)
  have hm25 := make25 n (by omega)
  go_enter Yba.func3, Yba.ntmps3
  go_upto_region 4 with fail
  go_cut [26] (fun t wc => wc = w ∧ ∃ bb : Bool, t = .bool bb ∧ (bb = true → 0 < n))
  case first =>
    cases hsb : (sel % 2 == 1)
    · go_wp2_with fail
      go_meet
      case rel => exact ⟨rfl, _, rfl, by simp⟩
    · go_wp2_with fail
      go_meet
      case rel => exact ⟨rfl, _, rfl, by simp⟩
  case rest =>
    obtain ⟨rfl, bb, rfl, hbb⟩ := hcut
    go_upto_if 26 with fail
    go_cut [7] (fun t wc' => wc' = wc ∧ ∃ tg : Int, t = .int .u8 tg)
    case first =>
      cases bb
      · go_wp2_with fail
        go_meet
        case rel => exact ⟨rfl, _, rfl⟩
      · have hn0 : 0 < n := hbb rfl
        have he := ha hn0
        subst he
        have hj := tmod_lt sel n hn0
        have hcj := unhide hc _ hj.2.2
        go_wp2_with fail
        go_meet
        case rel => exact ⟨rfl, _, rfl⟩
    case rest =>
      obtain ⟨rfl, tg, rfl⟩ := hcut
      clear hbb bb
      go_wp2_with fail
      clear hm24 hm25
      have O1 : Open ((wc.alloc (.cells (store0 n) 31)).alloc (.cells (ptrs0 n) 32)) wc.heap.size 4 n := (open_new wc (store0 n) 31 4 n (by omega) (size_store0 n)).later ((Below.refl _ _).alloc (by simp) _)
      have O2 : Open ((wc.alloc (.cells (store0 n) 31)).alloc (.cells (ptrs0 n) 32)) (wc.heap.size + 1) 1 n := by
        have := open_new (wc.alloc (.cells (store0 n) 31)) (ptrs0 n) 32 1 n (by omega) (by rw [size_ptrs0]; omega)
        rwa [World.size_alloc] at this
      have B0 : Below wc.heap.size wc ((wc.alloc (.cells (store0 n) 31)).alloc (.cells (ptrs0 n) 32)) := by go_grown
      generalize ((wc.alloc (.cells (store0 n) 31)).alloc (.cells (ptrs0 n) 32)) = W0 at O1 O2 B0 ⊢
      go_loopw [10] (fun ti wr => ∃ k : Nat, k ≤ n ∧ ti = .int .i64 k ∧ Open wr wc.heap.size 4 n ∧ Open wr (wc.heap.size + 1) 1 n ∧ Laid wr wc.heap.size (wc.heap.size + 1) k zs ∧ Below wc.heap.size wc wr) (fun ti _ => n - (intOf ti).toNat)
      case atStart => exact ⟨0, Nat.zero_le _, rfl, O1, O2, fun i hi => absurd hi (by omega), B0⟩
      case round =>
        obtain ⟨k, hk, rfl, P1, P2, L, B⟩ := hrel
        by_cases hlt : k < n
        · have he := ha (by omega)
          subst he
          obtain ⟨⟨v1, c1⟩, f1⟩ := P1 k hlt
          obtain ⟨⟨v2, c2⟩, f2⟩ := P2 k hlt
          rw [Nat.mul_one] at c2 f2
          have hck := (B.cell (p := ⟨b, off + k, none⟩) (hb (by omega))).trans (unhide hc k hlt)
          obtain ⟨z, hzk⟩ : ∃ z, z = zs.getD k 0 := ⟨_, rfl⟩
          rw [← hzk] at hck
          have HZ := hide hzk
          clear hzk
          go_wp2
          go_roundw
          case rel =>
            have e := unhide HZ
            subst e
            exact ⟨k + 1, by omega, by go_num, (P1.set _ _).set _ _, (P2.set _ _).set _ _, L.step hlt P1 P2 (by omega), (B.setCell (Nat.le_refl _) _).setCell (by show wc.heap.size ≤ wc.heap.size + 1; omega) _⟩
          case measure => simp [intOf]; omega
        · have hkn : k = n := by omega
          subst hkn
          clear hlt hk P1 P2 O1 O2 B0
          obtain ⟨f, hf1, hfi, hff⟩ := first_idx zs tg k
          have HF := hide hfi
          have HL := hide L
          by_cases hf : f < k
          · have hft := hff hf
            go_wp2_with fail
            refine (cred_found _ _ k k tg f (fun i => i * 4) (fun i => zs.getD i 0) wr (by unfold maxLen; omega) hf (hide fun i hi => ⟨(L i (by omega)).2, (L i (by omega)).1, hfi i hi⟩) ⟨(L f hf).2, by rw [(L f hf).1, hft]⟩).mono ?_
            rintro e w' ⟨rfl, rfl⟩
            clear L hfi
            go_wp2_with fail
            have he := ha (by omega)
            subst he
            have hbl := hb (by omega)
            go_loop [12, 13] (fun tw ti => ∃ i : Nat, i ≤ f ∧ ti = .int .i64 i ∧ tw = .int .i64 (-1)) (fun _ ti => k - (intOf ti).toNat)
            case atStart => exact ⟨0, Nat.zero_le _, rfl, rfl⟩
            case round =>
              obtain ⟨i, hi, rfl, rfl⟩ := hrel
              have hci := (B.cell (p := ⟨b, off + i, none⟩) hbl).trans (unhide hc i (by omega))
              by_cases hif : i < f
              · have hne := unhide HF i hif
                obtain ⟨z, hzk⟩ : ∃ z, z = zs.getD i 0 := ⟨_, rfl⟩
                rw [← hzk] at hci hne
                clear hzk
                have hne' : (z == tg) = false := by simpa using hne
                go_wp2
                go_round
                case rel => exact ⟨i + 1, by omega, by go_num, rfl⟩
                case measure => simp [intOf]; omega
              · have hie : i = f := by omega
                subst hie
                rw [hft] at hci
                go_wp2
                clear hci hft
                go_loopw [14] (fun tj wr3 => ∃ j q : Nat, j ≤ k ∧ tj = .int .i64 j ∧ wr3 = w'.drewN q) (fun tj _ => k - (intOf tj).toNat)
                case atStart => exact ⟨0, 0, Nat.zero_le _, rfl, rfl⟩
                case round =>
                  obtain ⟨j, q, hj, rfl, rfl⟩ := hrel
                  by_cases hjk : j < k
                  · obtain ⟨l1, l2⟩ := unhide HL j hjk
                    have hcj := (B.cell (p := ⟨b, off + j, none⟩) hbl).trans (unhide hc j hjk)
                    obtain ⟨y, hyk⟩ : ∃ y, y = zs.getD j 0 := ⟨_, rfl⟩
                    rw [← hyk] at hcj l1
                    clear hyk
                    go_wp2_with fail
                    go_quiet (fail)
                    go_wp2
                    go_roundw
                    case rel => exact ⟨j + 1, _, by omega, by go_num, rfl⟩
                    case measure => simp [intOf]; omega
                  · go_wp2
                    go_ret
                    exact ⟨rfl, below_drawn B _⟩
          · have hfk : f = k := by omega
            subst hfk
            go_wp2_with fail
            refine (cred_none _ _ f f tg (fun i => i * 4) (fun i => zs.getD i 0) wr (by unfold maxLen; omega) (hide fun i hi => ⟨(L i hi).2, (L i hi).1, hfi i hi⟩)).mono ?_
            rintro e w' ⟨rfl, rfl⟩
            clear L hfi hff
            go_wp2_with fail
            go_loop [12, 13] (fun tw ti => ∃ i : Nat, i ≤ f ∧ ti = .int .i64 i ∧ tw = .int .i64 (-1)) (fun _ ti => f - (intOf ti).toNat)
            case atStart => exact ⟨0, Nat.zero_le _, rfl, rfl⟩
            case round =>
              obtain ⟨i, hi, rfl, rfl⟩ := hrel
              by_cases hif : i < f
              · have he := ha (by omega)
                subst he
                have hbl := hb (by omega)
                have hci := (B.cell (p := ⟨b, off + i, none⟩) hbl).trans (unhide hc i (by omega))
                have hne := unhide HF i hif
                obtain ⟨z, hzk⟩ : ∃ z, z = zs.getD i 0 := ⟨_, rfl⟩
                rw [← hzk] at hci hne
                clear hzk
                have hne' : (z == tg) = false := by simpa using hne
                go_wp2
                go_round
                case rel => exact ⟨i + 1, by omega, by go_num, rfl⟩
                case measure => simp [intOf]; omega
              · go_wp2
                go_loopw [14] (fun tj wr3 => ∃ j q : Nat, j ≤ f ∧ tj = .int .i64 j ∧ wr3 = w'.drewN q) (fun tj _ => f - (intOf tj).toNat)
                case atStart => exact ⟨0, 0, Nat.zero_le _, rfl, rfl⟩
                case round =>
                  obtain ⟨j, q, hj, rfl, rfl⟩ := hrel
                  by_cases hjk : j < f
                  · obtain ⟨l1, l2⟩ := unhide HL j hjk
                    have he := ha (by omega)
                    subst he
                    have hbl := hb (by omega)
                    have hcj := (B.cell (p := ⟨b, off + j, none⟩) hbl).trans (unhide hc j hjk)
                    obtain ⟨y, hyk⟩ : ∃ y, y = zs.getD j 0 := ⟨_, rfl⟩
                    rw [← hyk] at hcj l1
                    clear hyk
                    go_wp2_with fail
                    go_quiet (fail)
                    go_wp2
                    go_roundw
                    case rel => exact ⟨j + 1, _, by omega, by go_num, rfl⟩
                    case measure => simp [intOf]; omega
                  · go_wp2
                    go_ret
                    exact ⟨rfl, below_drawn B _⟩
end Go.Proofs.Ybulkdbcc
