/-
  credentialOf (7).
-/
import Derived.Test.YbulkdbccRows
import Derived.WalkKit
import Derived.WalkSpells
import Derived.Handy
import Derived.Below
import Derived.Deep.QuietTactic
import Derived.BigQuiet
namespace Go.Proofs.Ybulkdbcc
open Go.RowKit

theorem hide {p : Prop} (h : p) : Hid p := h
theorem unhide {p : Prop} (h : Hid p) : p := h

set_option maxHeartbeats 400000 in
theorem cred_found (bc bs n cap : Nat) (typ : Int) (k : Nat) (S : Nat → Nat) (T : Nat → Int) (w : World) (hn : n ≤ maxLen) (hk : k < n)
    (hent : Hid (∀ i, i < k → w.cell? ⟨bc, i, none⟩ = some (.pointer (some ⟨bs, S i, none⟩)) ∧ w.cell? ⟨bs, S i, none⟩ = some (.int .u8 (T i)) ∧ T i ≠ typ))
    (hend : w.cell? ⟨bc, k, none⟩ = some (.pointer (some ⟨bs, S k, none⟩)) ∧ w.cell? ⟨bs, S k, none⟩ = some (.int .u8 typ)) :
    Calls Yba.prog 7 #[.slice (some ⟨bc, 0, none⟩) n cap, .int .u8 typ] w fun e w' => e = .returned (.pointer (some ⟨bs, S k, none⟩)) ∧ w' = w := by
  unfold maxLen at hn
  obtain ⟨c1, c2⟩ := hend
  go_enter Yba.func7, Yba.ntmps7
  go_wp2
  go_loop [9] (fun ti => ∃ i : Nat, i ≤ k ∧ ti = .int .i64 i) (fun ti => n - (intOf ti).toNat)
  case atStart => exact ⟨0, Nat.zero_le _, rfl⟩
  case round =>
    obtain ⟨i, hi, rfl⟩ := hrel
    by_cases hlt : i < k
    · obtain ⟨d1, d2, d3⟩ := unhide hent i hlt
      have d4 : (T i == typ) = false := by simpa using d3
      go_wp2
      go_round
      case rel => exact ⟨i + 1, by omega, by go_num⟩
      case measure => simp [intOf]; omega
    · have hik : i = k := by omega
      subst hik
      go_wp2
      go_ret
      exact ⟨rfl, rfl⟩

set_option maxHeartbeats 400000 in
theorem cred_none (bc bs n cap : Nat) (typ : Int) (S : Nat → Nat) (T : Nat → Int) (w : World) (hn : n ≤ maxLen)
    (hent : Hid (∀ i, i < n → w.cell? ⟨bc, i, none⟩ = some (.pointer (some ⟨bs, S i, none⟩)) ∧ w.cell? ⟨bs, S i, none⟩ = some (.int .u8 (T i)) ∧ T i ≠ typ)) :
    Calls Yba.prog 7 #[.slice (some ⟨bc, 0, none⟩) n cap, .int .u8 typ] w fun e w' => e = .returned (.pointer none) ∧ w' = w := by
  unfold maxLen at hn
  go_enter Yba.func7, Yba.ntmps7
  go_wp2
  go_loop [9] (fun ti => ∃ i : Nat, i ≤ n ∧ ti = .int .i64 i) (fun ti => n - (intOf ti).toNat)
  case atStart => exact ⟨0, Nat.zero_le _, rfl⟩
  case round =>
    obtain ⟨i, hi, rfl⟩ := hrel
    by_cases hlt : i < n
    · obtain ⟨d1, d2, d3⟩ := unhide hent i hlt
      have d4 : (T i == typ) = false := by simpa using d3
      go_wp2
      go_round
      case rel => exact ⟨i + 1, by omega, by go_num⟩
      case measure => simp [intOf]; omega
    · have hik : i = n := by omega
      subst hik
      go_wp2
      go_ret
      exact ⟨rfl, rfl⟩
end Go.Proofs.Ybulkdbcc
