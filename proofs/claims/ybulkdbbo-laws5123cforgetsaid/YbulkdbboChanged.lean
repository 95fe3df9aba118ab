/-
  Pool.placeChanged (9).
-/
import Derived.Test.YbulkdbboSwap
import Derived.Lib.SliceRun
import Derived.Deep.RegionWith
import Derived.Deep.RegionLaw
import Derived.Deep.DeepCutAuto
namespace Go.Proofs.Ybulkdbbo
open Go.RowKit Go.Lib
attribute [local go_sem] setCell_drewN
attribute [local go_sem] alloc_drewN

def Cfg.idle (c : Cfg) (x : Nat) : Bool := idleB (c.nn x) (c.bl x) (c.bh x)

theorem clear_nil (ty : TypeId) (w : World) : (Builtin.clear_ #[39] ty #[.slice none 0 0]).run Yba.prog w = .ok (.tuple #[]) w := by
  simp [Builtin.clear_, run_underlying Yba.underlying39]

theorem len_le : ∀ (l : List Nat) (n : Nat), l.Nodup → (∀ x ∈ l, x < n) → l.length ≤ n := by
  intro l n hn hl
  have h : l.length ≤ (List.range n).length := hn.length_le_of_subset (fun x hx => by simpa using hl x hx)
  simpa using h

set_option maxHeartbeats 1000000 in
theorem placeChanged (c : Cfg) (a : Apart c) (w : World) (h : Nat → Bool) (P : Pl c w (st0 c.n) h) (hh : ∀ x, x < c.n → h x = true → x ∈ c.C) :
    Calls Yba.prog 9 #[.pointer (some ⟨c.p, 0, none⟩)] w fun e w' => e = .returned (.tuple #[]) ∧ Pl { c with C := [] } w' (after c.idle c.n c.C) (fun _ => false) ∧ Fr c w w' := by
  have hcn : c.C.length ≤ 100000 := by
    have h1 := len_le c.C c.n a.cn a.cl
    have := a.small
    omega
  have hch := P.ch
  by_cases hC : 0 < c.C.length
  case neg =>
    have hC0 : c.C.length = 0 := by omega
    obtain ⟨z1, z2⟩ := a.cz hC0
    have hCn := List.length_eq_zero_iff.1 hC0
    have hall : ∀ x, x < c.n → h x = false := fun x hx => by
      cases e : h x
      · rfl
      · have := hh x hx e
        rw [hCn] at this
        cases this
    have P7 := P.cleared a (w' := w) (fun _ _ => rfl) hall
    have F7 := (Fr.refl c w).set (a := ⟨c.p, 29, none⟩) (.slice c.ca 0 c.cc) (.inl rfl)
    have f29 := P.f29
    have hst : after c.idle c.n c.C = st0 c.n := by rw [hCn]; rfl
    rw [hst]
    rw [z1, z2, hC0] at hch
    have HE : Hid (w.setCell ⟨c.p, 29, none⟩ (.slice none 0 0) = w.setCell ⟨c.p, 29, none⟩ (.slice c.ca 0 c.cc)) := hide (by rw [z1, z2])
    clear z1 z2 hC0 hCn hst hC hcn
    have hclr := clear_nil
    go_enter Yba.func9, Yba.ntmps9
    go_wp2_with fail
    refine wp_loop_rounds 1 ?_
    rw [rounds_succ]; go_wp2_with fail
    go_end0
    rw [unhide HE]
    exact ⟨rfl, P7, F7⟩
  have hca := a.ca hC
  rw [hca] at hch
  go_enter Yba.func9, Yba.ntmps9
  go_wp2_with fail
  clear hch
  go_loopw [9] (fun tt wr => ∃ (t : Nat) (hm : Nat → Bool), t ≤ c.C.length ∧ tt = .int .i64 t ∧ Hid (Pl c wr (after c.idle c.n (c.C.take t)) hm) ∧ Hid (∀ x, x < c.n → hm x = true → x ∈ c.C.drop t) ∧ Fr c w wr) (fun tt _ => c.C.length - (intOf tt).toNat)
  case atStart => exact ⟨0, h, by omega, rfl, hide (by simpa [after] using P), hide (by simpa using hh), Fr.refl _ _⟩
  case round =>
    obtain ⟨t, hm, ht, rfl, HP, HM, F⟩ := hrel
    by_cases hlt : t < c.C.length
    · have P1 := unhide HP
      obtain ⟨x, hx⟩ : ∃ x, x = c.C.getD t 0 := ⟨_, rfl⟩
      have cc := (P1.cch t hlt).1
      rw [← hx] at cc
      have hxC : x ∈ c.C := by rw [hx, List.getD_eq_getElem?_getD, List.getElem?_eq_getElem hlt]; simp
      have hxn := a.cl x hxC
      have AX := P1.acc x hxn
      obtain ⟨c10, c1, c6⟩ := And.intro AX.c10 (And.intro AX.c1 AX.c6)
      have HX := hide hx
      clear hx
      go_wp2_with fail
      refine (place_nil c.p (c.A x) (c.fr x) (c.nn x) 0 0 0 0 wr c1 c6 P1.fee0 P1.fee1 P1.fee2 P1.fee3).mono ?_
      rintro e w1 ⟨rfl, hb1⟩
      have P2 := P1.later hb1
      have F2 := F.later hb1
      have AX2 := P2.acc x hxn
      obtain ⟨d9, e9⟩ := And.intro AX2.c9 AX2.f9
      clear hb1 P1 F AX c10 c1 c6 cc HP
      have P3 := P2.unmark a hxn
      have F3 := F2.set (a := ⟨c.A x, 9, none⟩) (.bool false) (.inr (.inr (.inr ⟨x, hxn, rfl⟩)))
      have AX3 := P3.acc x hxn
      go_wp2_with fail
      refine (idle_any (c.A x) (c.nn x) (c.bl x) (c.bh x) _ AX3.c1 AX3.c2 AX3.c3 AX3.c4 AX3.c5 AX3.c6).mono ?_
      rintro e w2 ⟨rfl, hw2⟩
      rw [← hw2] at P3 F3 AX3
      clear hw2 P2 F2 AX2 d9 e9
      have htk : c.C.take (t + 1) = c.C.take t ++ [x] := by
        rw [unhide HX, List.take_succ_eq_append_getElem hlt, List.getD_eq_getElem?_getD, List.getElem?_eq_getElem hlt]; rfl
      have hdr : c.C.drop t = x :: c.C.drop (t + 1) := by
        rw [unhide HX, List.drop_eq_getElem_cons hlt, List.getD_eq_getElem?_getD, List.getElem?_eq_getElem hlt]; rfl
      have HM2 : Hid (∀ y, y < c.n → (if y = x then false else hm y) = true → y ∈ c.C.drop (t + 1)) := hide (by
        intro y hy hyt
        by_cases e : y = x
        · rw [if_pos e] at hyt; cases hyt
        · rw [if_neg e] at hyt
          have := unhide HM y hy hyt
          rw [hdr] at this
          rcases List.mem_cons.1 this with k | k
          · exact absurd k e
          · exact k)
      have HT := hide htk
      have HD := hide hdr
      clear htk hdr HM
      cases hid : idleB (c.nn x) (c.bl x) (c.bh x)
      · go_wp2
        go_roundw
        case rel =>
          refine ⟨t + 1, _, by omega, by go_num, ?_, HM2, F3⟩
          rw [unhide HT, after_snoc]
          have : stepIf c.idle (after c.idle c.n (c.C.take t)) x = after c.idle c.n (c.C.take t) := by unfold stepIf; rw [if_neg (by unfold Cfg.idle; rw [hid]; simp)]
          rw [this]
          exact hide P3
        case measure => simp [intOf]; omega
      · go_upto_region 6 with fail
        have hxt : x ∉ c.C.take t := by
          have hnd := a.cn
          rw [← List.take_append_drop t c.C] at hnd
          have hdj := (List.nodup_append.1 hnd).2.2
          intro hk
          exact hdj x hk x (by rw [unhide HD]; simp) rfl
        have hKL := after_KL c.idle c.n (c.C.take t) (a.cn.sublist (List.take_sublist t c.C)) (fun y hy => a.cl y (List.mem_of_mem_take hy))
        have hxL := after_mem c.idle c.n (c.C.take t) x hxn hxt
        obtain ⟨s, hs⟩ : ∃ s, s = after c.idle c.n (c.C.take t) := ⟨_, rfl⟩
        rw [← hs] at hKL hxL P3
        have HS := hide hs
        clear hs hxt
        obtain ⟨clk, hes⟩ := P3.es
        have hdel := fun ty => run_delete (w := w2.drew) (A := c.A) (S := c.S) (r := c.r) (c := clk) hes hxL (fun y hy e => a.names y x (hKL.lt y hy) hxn e) ty
        have m10 := P3.m
        have n0 := AX3.c0
        go_region
        go_upto_region 7 with fail
        have P4 := P3.drew.forget a (s.L.erase x) clk
        have F4 := F3.drew.map (ents c.A c.S (s.L.erase x)) clk
        generalize putMap w2.drew c.r (ents c.A c.S (s.L.erase x)) clk = W4 at P4 F4 ⊢
        clear hdel m10 n0 P3 F3 AX3 hes
        have AX4 := P4.acc x hxn
        have hka := a.ka (by omega)
        obtain ⟨hj, hKj⟩ := hKL.at_ x hxL
        obtain ⟨m, hm1⟩ : ∃ m, s.K.length = m + 1 := ⟨s.K.length - 1, by omega⟩
        have hlast := (hKL.mem m (by omega)).1
        have hlo : s.K.getD m 0 = lastOf s.K := by unfold lastOf; rw [hm1]; rfl
        rw [hlo] at hlast
        have hln := hKL.lt _ hlast
        have AL := P4.acc (lastOf s.K) hln
        have k11 := P4.kept
        have kl := P4.kc m (by show m < s.K.length; omega)
        have kj := P4.kc (s.f x) hj
        have hkl : W4.cell? ⟨c.gk, m, none⟩ = some (.pointer (some ⟨c.A (lastOf s.K), 0, none⟩)) := by rw [← hlo]; exact kl.1
        have k11' : W4.cell? ⟨c.p, 11, none⟩ = some (.slice (some ⟨c.gk, 0, none⟩) (m + 1) c.ck) := by rw [k11, hka]; show _ = some (Value.slice _ _ _); rw [← hm1]
        have k8 : W4.cell? ⟨c.A x, 8, none⟩ = some (.int .i64 (s.f x)) := AX4.c8
        have hKn : s.K.length ≤ c.n := by rw [hKL.len]; exact len_le s.L c.n hKL.nodup hKL.lt
        have hsm := a.small
        have hrm := a.room
        have hsw := swapOut_any c.gk m c.ck (s.f x) (c.A (lastOf s.K)) W4.drew (by omega) (by omega) hkl ⟨_, kj.1⟩ kj.2 kl.2 ⟨_, AL.c8⟩ AL.f8 (Ne.symm (a.ak _ hln)) (by omega)
        have HW := hide hsw
        have Q11 : Hid ((((W4.drew.setCell ⟨c.gk, s.f x, none⟩ (.pointer (some ⟨c.A (lastOf s.K), 0, none⟩))).setCell ⟨c.A (lastOf s.K), 8, none⟩ (.int .i64 (s.f x))).setCell ⟨c.gk, m, none⟩ (.pointer none)).cell? ⟨c.p, 11, none⟩ = some (.slice (some ⟨c.gk, 0, none⟩) (m + 1) c.ck)) := hide (by
          rw [World.cell?_of_block (a := ⟨c.p, 11, none⟩) (block_set _ _ _ _ a.pk), World.cell?_of_block (a := ⟨c.p, 11, none⟩) (block_set _ _ _ _ (Ne.symm (a.ap _ hln))), World.cell?_of_block (a := ⟨c.p, 11, none⟩) (block_set _ _ _ _ a.pk)]
          exact k11')
        have f11 := P4.f11
        have G11 : Hid ((((W4.drew.setCell ⟨c.gk, s.f x, none⟩ (.pointer (some ⟨c.A (lastOf s.K), 0, none⟩))).setCell ⟨c.A (lastOf s.K), 8, none⟩ (.int .i64 (s.f x))).setCell ⟨c.gk, m, none⟩ (.pointer none)).frozen? ⟨c.p, 11, none⟩ = false) := hide (by simpa using f11)
        clear hsw k11 hka
        go_region_with (go_at_call 18; refine (unhide HW).mono ?_; rintro e w3 ⟨rfl, hw3⟩; have q11 : w3.cell? ⟨c.p, 11, none⟩ = some (.slice (some ⟨c.gk, 0, none⟩) (m + 1) c.ck) := (by rw [hw3]; exact unhide Q11); have g11 : w3.frozen? ⟨c.p, 11, none⟩ = false := (by rw [hw3]; exact unhide G11); have HW3 := hide hw3; clear hw3)
        all_goals
          have hEW : w3.setCell ⟨c.p, 11, none⟩ (.slice (some ⟨c.gk, 0, none⟩) m c.ck) = swapped c W4.drew ⟨s.K, s.f, s.L.erase x⟩ (s.f x) := by
            unfold swapped
            rw [unhide HW3, a.ka (by omega)]
            show _ = World.setCell (World.setCell _ ⟨c.gk, s.K.length - 1, none⟩ _) _ (.slice _ (s.K.length - 1) _)
            rw [hm1, Nat.add_sub_cancel]
          have P5 := P4.drew.swap a (s.f x) hj hln
          have F5 := F4.drew.swap (s := ⟨s.K, s.f, s.L.erase x⟩) (s.f x) hln
          rw [← hEW] at P5 F5
          clear hEW HW3 q11 g11 Q11 G11 HW P4 F4 AX4 AL kl kj hkl k11' k8 f11
          have HP5 := hide P5
          clear P5
          go_wp2
          go_roundw
          case rel =>
            refine ⟨t + 1, _, by omega, by go_num, ?_, HM2, F5⟩
            rw [unhide HT, after_snoc]
            have : stepIf c.idle (after c.idle c.n (c.C.take t)) x = s.out x := by unfold stepIf; rw [if_pos (by unfold Cfg.idle; exact hid), unhide HS]
            rw [this]
            exact HP5
          case measure => simp [intOf]; omega
    · have htn : t = c.C.length := by omega
      subst htn
      have P6 := unhide HP
      rw [List.take_length] at P6
      have hall : ∀ x, x < c.n → hm x = false := fun x hx => by
        cases e : hm x
        · rfl
        · exact absurd (unhide HM x hx e) (by simp)
      have h29 := P6.ch
      rw [hca] at h29
      have hclr := fun ty => run_clear_slice (P := Yba.prog) wr 39 52 ty (.pointer none) Yba.underlying39 (fun _ => by kernel_rfl) rfl rfl c.gc 0 c.C.length c.cc hC (fun j hj => by rw [Nat.zero_add, (P6.cch j hj).1]; rfl) (fun j hj => by rw [Nat.zero_add]; exact (P6.cch j hj).2)
      have hb7 : ∀ k, k ≠ c.gc → (wr.setCells c.gc 0 (List.replicate c.C.length (.pointer none))).heap[k]? = wr.heap[k]? := fun k hk => setCells_block c.gc _ 0 wr k hk
      have P7 := P6.cleared a hb7 hall
      have F7 := (F.cells 0 (List.replicate c.C.length (.pointer none))).set (a := ⟨c.p, 29, none⟩) (.slice c.ca 0 c.cc) (.inl rfl)
      have j29 : (wr.setCells c.gc 0 (List.replicate c.C.length (.pointer none))).cell? ⟨c.p, 29, none⟩ = some (.slice (some ⟨c.gc, 0, none⟩) c.C.length c.cc) := cell_some_block h29 (hb7 _ a.pc)
      have k29 : (wr.setCells c.gc 0 (List.replicate c.C.length (.pointer none))).frozen? ⟨c.p, 29, none⟩ = false := frozen_block P6.f29 (hb7 _ a.pc)
      have hcc : c.C.length ≤ c.cc := a.cr
      generalize (wr.setCells c.gc 0 (List.replicate c.C.length (.pointer none))) = W7 at hclr P7 F7 j29 k29
      clear hb7 HP HM P6 F
      have HE : Hid (W7.setCell ⟨c.p, 29, none⟩ (.slice (some ⟨c.gc, 0, none⟩) 0 c.cc) = W7.setCell ⟨c.p, 29, none⟩ (.slice c.ca 0 c.cc)) := hide (by rw [hca])
      go_wp2_with fail
      go_end0
      rw [unhide HE]
      exact ⟨rfl, P7, F7⟩
end Go.Proofs.Ybulkdbbo
