/-
  zzs5123aaddat (15).
-/
import Derived.Test.YbulkdbboSix
namespace Go.Proofs.Ybulkdbbo
open Go.RowKit Go.Lib

set_option maxHeartbeats 1000000 in
theorem addat (b pos : Nat) (v : Int) (ys : List Int) (T : Int) (w : World) (hp : pos ≤ 6) (hv : Word v) (hy : ys.length = 6) (ha : AllWords ys) (hr : RowAt w b ys)
    (hT : Hid (val ys + v * 18446744073709551616 ^ pos = T)) (hlt : Hid (T < 18446744073709551616 ^ 6)) :
    Calls Yba.prog 15 #[.pointer (some ⟨b, 0, none⟩), .int .i64 pos, .int .u64 v] w fun e w' => e = .returned (.tuple #[]) ∧ ∃ zs : List Int, zs.length = 6 ∧ AllWords zs ∧ RowAt w' b zs ∧ Hid (val zs = T) ∧ But b w w' := by
  go_enter Yba.func15, Yba.ntmps15
  go_wp2
  go_loopw [2, 6] (fun tv tj wr => ∃ (k : Nat) (u : Int) (zs : List Int), k ≤ 6 ∧ tj = .int .i64 k ∧ tv = .int .u64 u ∧ Word u ∧ zs.length = 6 ∧ AllWords zs ∧ RowAt wr b zs ∧ Hid (val zs + u * 18446744073709551616 ^ k = T) ∧ But b w wr) (fun _ tj _ => 6 - (intOf tj).toNat)
  case atStart => exact ⟨pos, v, ys, hp, rfl, rfl, hv, hy, ha, hr, hT, But.refl _ _⟩
  case round =>
    obtain ⟨k, u, zs, hk, rfl, rfl, hu, hz, haz, hrz, HT, hbut⟩ := hrel
    by_cases hlt6 : k < 6
    · cases hub : (u != 0)
      · go_wp2
        go_end0
        refine ⟨rfl, zs, hz, haz, hrz, ?_, hbut⟩
        have hu0 : u = 0 := by simpa using hub
        have h := unhide HT
        rw [hu0] at h
        exact hide (by omega)
      · have hw := haz k (by omega)
        obtain ⟨hc, hf⟩ := hrz k (by omega)
        obtain ⟨y, hyk⟩ : ∃ y, y = zs.getD k 0 := ⟨_, rfl⟩
        rw [← hyk] at hw hc
        obtain ⟨s, c, ws, c0, c1, He, hrun⟩ := add64_ex y u 0 hw hu (by omega) (by omega)
        have HY := hide hyk
        clear hyk
        go_wp2
        go_roundw
        case rel =>
          have h1 := unhide HY
          rw [h1] at He
          exact ⟨k + 1, c, zs.set k s, by omega, by go_num, rfl, ⟨c0, by omega⟩, by simpa using hz, allWords_set haz k ws, hrz.set k s, val_round (by omega) HT He, hbut.set k _⟩
        case measure => simp [intOf]; omega
    · have hk6 : k = 6 := by omega
      subst hk6
      go_wp2
      go_end0
      exact ⟨rfl, zs, hz, haz, hrz, hide (val_end haz hu HT (unhide hlt)), hbut⟩
end Go.Proofs.Ybulkdbbo
