import Derived.Test.YbulkdbboEnd
namespace Go.Proofs.Ybulkdbbo
open Go.RowKit Go.Lib

set_option maxHeartbeats 4000000 in
set_option maxRecDepth 20000 in
theorem forget_walk (a0 : Option Addr) (b off n cap : Nat) (nn bl bh fr : Nat → Int) (cg : Nat → Bool) (w : World) (hn : n ≤ 1024) (ha : 0 < n → a0 = some ⟨b, off, none⟩) (hb : 0 < n → b < w.heap.size)
    (hc : Hid (∀ i, i < n → w.cell? ⟨b, off + i * 5, none⟩ = some (.int .u64 (nn i)) ∧ w.cell? ⟨b, off + i * 5 + 1, none⟩ = some (.int .u64 (bl i)) ∧ w.cell? ⟨b, off + i * 5 + 2, none⟩ = some (.int .u64 (bh i)) ∧ w.cell? ⟨b, off + i * 5 + 3, none⟩ = some (.int .u64 (fr i)) ∧ w.cell? ⟨b, off + i * 5 + 4, none⟩ = some (.bool (cg i)))) :
    Calls Yba.prog 5 #[.slice a0 n cap] w fun e w' => e = .returned (.bool true) ∧ Below w.heap.size w w' := by
  have hmm := @run_makeMap Yba.prog
  have hmk := make39 n hn
  have l := dat_lies n nn bl bh fr cg w
  go_enter Yba.func5, Yba.ntmps5
  go_wp2_with fail
  clear hmm hmk
  have S0 := G_start n nn bl bh fr cg w
  generalize (((w.alloc (.map #[] 0)).alloc (.cells #[.int .u64 0, .int .u64 0, .int .u64 0, .int .u64 0, .int .u64 0, .int .u64 0, .int .u64 0, .nilFunc, .nilFunc, .nilFunc, .map (some w.heap.size), .slice none 0 0, .slice none 0 0, .map none, .int .u64 0, .int .u64 0, .int .u64 0, .map none, .slice none 0 0, .int .u64 0, .int .u64 0, .int .u64 0, .int .u64 0, .slice none 0 0, .nilFunc, .slice none 0 0, .nilFunc, .slice none 0 0, .nilFunc, .slice none 0 0, .slice none 0 0, .int .i64 0, .int .u64 0, .slice none 0 0, .slice none 0 0, .slice none 0 0] 51)).alloc (.cells (acs0 n) 52)) = W0 at S0 ⊢
  go_loopw [31] (fun ti wr => ∃ (k : Nat) (A : Nat → Nat) (kv cv : Value), k ≤ n ∧ ti = .int .i64 k ∧ ((dat n nn bl bh fr cg w).Cs k = [] → cv = .slice none 0 0) ∧ G (dat n nn bl bh fr cg w) w A k k k k k cg (frp fr cg) kv cv wr) (fun ti _ => n - (intOf ti).toNat)
  case atStart => exact ⟨0, _, _, _, Nat.zero_le _, rfl, fun _ => rfl, S0⟩
  case round =>
    obtain ⟨k, A, kv, cv, hk, rfl, hz, g⟩ := hrel
    replace hz := hide hz
    by_cases hlt : k < n
    · have he := ha (by omega)
      subst he
      obtain ⟨h0, h1, h2, h3, h4⟩ := unhide hc k hlt
      have B := g.bel
      have g0 := (B.cell (p := ⟨b, off + k * 5, none⟩) (hb (by omega))).trans h0
      have g1 := (B.cell (p := ⟨b, off + k * 5 + 1, none⟩) (hb (by omega))).trans h1
      have g2 := (B.cell (p := ⟨b, off + k * 5 + 2, none⟩) (hb (by omega))).trans h2
      have hcv := conv_name k wr
      have hbl := cell_lt g0
      clear h0 h1 h2 B
      go_upto_region 8 with fail
      go_region
      go_upto_region 9 with fail
      clear g0 g1 g2 hcv hbl
      have gA := (g.later l (w' := (wr.alloc (.cells #[.int .u8 115, .int .u8 ((k : Int) % 256), .int .u8 ((k : Int) / 256)] 5)).alloc (.cells #[.string (name k), .int .u64 (nn k), .int .u64 (bl k), .int .u64 0, .int .u64 0, .int .u64 (bh k), .slice none 0 0, .int .i64 0, .int .i64 k, .bool false, .int .u64 0] 58)) (((Below.refl _ _).alloc (Nat.le_refl _) _).alloc (by simp) _)).drew
      have AC := (acct_new (wr.alloc (.cells #[.int .u8 115, .int .u8 ((k : Int) % 256), .int .u8 ((k : Int) / 256)] 5)) (name k) (nn k) (bl k) (bh k) k)
      rw [World.size_alloc] at AC
      have gB := gA.fresh (b' := wr.heap.size + 1) (by have := g.sz; omega) (fun x hx => by have := cell_lt (g.cb x hx).c0; omega) (fun q hq => by have := (g.ok.lt q hq).2; omega) (fun q hq => by have := (g.oc.lt q hq).2; omega) (AC.same rfl)
      clear gA AC g
      generalize ((wr.alloc (.cells #[.int .u8 115, .int .u8 ((k : Int) % 256), .int .u8 ((k : Int) / 256)] 5)).alloc (.cells #[.string (name k), .int .u64 (nn k), .int .u64 (bl k), .int .u64 0, .int .u64 0, .int .u64 (bh k), .slice none 0 0, .int .i64 0, .int .i64 k, .bool false, .int .u64 0] 58)).drew = W1 at gB ⊢
      generalize wr.heap.size + 1 = b1 at gB ⊢
      obtain ⟨A1, hA1⟩ : ∃ A1 : Nat → Nat, A1 = fun x => if x = k then b1 else A x := ⟨_, rfl⟩
      rw [← hA1] at gB
      have hAk : A1 k = b1 := by rw [hA1]; simp
      clear hA1
      have HA := hide hAk
      clear hAk
      obtain ⟨⟨v9, r9⟩, f9⟩ := gB.roomAt hlt
      go_upto_region 10 with fail
      have gC := gB.putAt hlt (unhide HA)
      clear gB r9 f9 v9
      generalize (W1.setCell ⟨w.heap.size + 1 + 1, k, none⟩ (.pointer (some ⟨b1, 0, none⟩))) = W2 at gC ⊢
      have m10 := gC.mAt
      have s10 := (gC.acctAt (Nat.lt_succ_self k) (unhide HA)).c0
      have hupd := gC.updAt hn hlt (unhide HA)
      go_region
      go_upto_region 11 with fail
      clear m10 s10 hupd
      have gD := gC.mapAt
      clear gC
      generalize (putMap W2.drew w.heap.size (ents A1 name (List.range k ++ [k])) (k + 1)) = W3 at gD ⊢
      have m11 := gD.keptAt
      go_upto_region 12 with (at_builtin; refine wpList_append_acct rfl _ _ rfl (w.heap.size + 1 + 1 + 1) kv k _ rfl _ gD.okAt _ rfl W3.heap.size rfl rfl (by omega) gD.sz ?_; intro g' c' w4 ho hgr hf; obtain ⟨q1, q2⟩ := gD.grewKept hgr)
      have gE := gD.keepAt (unhide HA) ho hgr hf
      clear gD m11 q1 q2 ho hgr hf
      generalize (w4.setCell ⟨w.heap.size + 1, 11, none⟩ (.slice (some ⟨g', 0, none⟩) (k + 1) c')) = W5 at gE ⊢
      generalize (Value.slice (some ⟨g', 0, none⟩) (k + 1) c') = kv1 at gE ⊢
      have g4 := (gE.bel.cell (p := ⟨b, off + k * 5 + 4, none⟩) (hb (by omega))).trans h4
      rcases hcg : cg k with _ | _
      · rw [hcg] at g4
        have gZ := gE.passAt hcg
        have Hcg := hide hcg
        clear gE hcg
        go_wp2_with fail
        refine ⟨⟨k + 1, A1, _, _, hlt, rfl, fun e => unhide hz ?_, gZ⟩, by simp [intOf]; omega⟩
        rw [← Dt.Cs_no _ _ (show (dat n nn bl bh fr cg w).cg k = false from unhide Hcg)]; exact e
      · rw [hcg] at g4
        have Hcg := hide hcg
        clear hcg
        go_upto_region 13 with fail
        have hA1 := gE.acctAt (Nat.lt_succ_self k) (unhide HA)
        have t9 := hA1.c9
        have f9 := hA1.f9
        clear hA1
        go_upto_region 14 with fail
        have gF := gE.markAt (unhide HA) (unhide Hcg)
        clear gE t9 f9 g4
        generalize (W5.setCell ⟨b1, 9, none⟩ (.bool true)) = W6 at gF ⊢
        have hA1 := gF.acctAt (Nat.lt_succ_self k) (unhide HA)
        have t10 := hA1.c10
        have f10 := hA1.f10
        clear hA1
        have g3 := (gF.bel.cell (p := ⟨b, off + k * 5 + 3, none⟩) (hb (by omega))).trans h3
        go_upto_region 15 with fail
        have gH := gF.fromAt (unhide HA) (unhide Hcg)
        clear gF t10 f10 g3
        generalize (W6.setCell ⟨b1, 10, none⟩ (.int .u64 (fr k))) = W7 at gH ⊢
        have m15 := gH.chAt
        have hCl := (dat n nn bl bh fr cg w).Cs_le k
        go_upto_region 16 with (at_builtin; refine wpList_append_acct rfl _ _ rfl (w.heap.size + 1 + 1 + 1) cv _ _ rfl _ gH.ocAt _ rfl W7.heap.size rfl rfl (by omega) gH.sz ?_; intro g2 c2 w8 ho hgr hf; obtain ⟨q1, q2⟩ := gH.grewCh hgr)
        have gZ := gH.noteAt (unhide HA) (unhide Hcg) ho hgr hf
        clear gH m15 q1 q2 ho hgr hf
        go_wp2_with fail
        refine ⟨⟨k + 1, A1, _, _, hlt, rfl, fun e => ?_, gZ⟩, by simp [intOf]; omega⟩
        rw [Dt.Cs_yes _ _ (show (dat n nn bl bh fr cg w).cg k = true from unhide Hcg)] at e
        simp at e
    · have hkn : n = k := by omega
      subst hkn
      clear S0 hlt hk
      have hm59 := make59 n hn
      have hm60 := make60 n hn
      go_upto_region 19 with fail
      have T0 := M2.start wr n
      generalize ((wr.alloc (.cells (ints0 n) 3)).alloc (.cells (ints0 n) 3)) = Wt at T0 ⊢
      generalize wr = w1 at g T0 ⊢
      clear hm59
      go_wp2_with fail
      go_loopw [119] (fun ti wr => ∃ k : Nat, k ≤ n ∧ ti = .int .i64 k ∧ M2 w1 n k wr) (fun ti _ => n - (intOf ti).toNat)
      case atStart => exact ⟨0, Nat.zero_le _, rfl, T0⟩
      case round =>
        obtain ⟨k, hk, rfl, m⟩ := hrel
        by_cases hlt : k < n
        · obtain ⟨⟨v1, r1⟩, f1⟩ := m.rm k hlt
          obtain ⟨⟨v2, r2⟩, f2⟩ := m.rp k hlt
          go_wp2_with fail
          exact ⟨⟨k + 1, hlt, rfl, m.step hlt⟩, by simp [intOf]; omega⟩
        · have hkn : n = k := by omega
          subst hkn
          clear T0 hlt hk
          have hs := m.sz
          go_upto_region 26 with fail
          have T0 := T3.start (nn := nn) (bl := bl) (bh := bh) (cg := cg) m
          generalize (wr.alloc (.cells (bools0 n) 4)) = Wt at T0 ⊢
          clear hm60 m hs
          go_wp2_with fail
          go_loopw [7, 136] (fun tm ti wr => ∃ k : Nat, k ≤ n ∧ tm = .slice (some ⟨w1.heap.size, 0, none⟩) (Sk nn bl bh cg n k).K.length n ∧ ti = .int .i64 k ∧ T3 nn bl bh cg w1 n k wr) (fun _ ti _ => n - (intOf ti).toNat)
          case atStart => exact ⟨0, Nat.zero_le _, by simp [Sk, after, st0], rfl, T0⟩
          case round =>
            obtain ⟨k, hk, rfl, rfl, m⟩ := hrel
            by_cases hlt : k < n
            · have he := ha (by omega)
              subst he
              obtain ⟨h0, h1, h2, h3, h4⟩ := unhide hc k hlt
              have B := g.bel.trans (M3.bel m |>.mono g.bel.size)
              have g0 := (B.cell (p := ⟨b, off + k * 5, none⟩) (hb (by omega))).trans h0
              have g1 := (B.cell (p := ⟨b, off + k * 5 + 1, none⟩) (hb (by omega))).trans h1
              have g2 := (B.cell (p := ⟨b, off + k * 5 + 2, none⟩) (hb (by omega))).trans h2
              have g4 := (B.cell (p := ⟨b, off + k * 5 + 4, none⟩) (hb (by omega))).trans h4
              clear h0 h1 h2 h3 h4 B T0
              have done : ∀ (e : gone nn bl bh cg k = false), (∃ k_1 : Nat, k_1 ≤ n ∧ Value.slice (some ⟨w1.heap.size, 0, none⟩) (Sk nn bl bh cg n k).K.length n = .slice (some ⟨w1.heap.size, 0, none⟩) (Sk nn bl bh cg n k_1).K.length n ∧ Value.int .i64 ((k : Int) + 1) = .int .i64 k_1 ∧ T3 nn bl bh cg w1 n k_1 wr) ∧ n - (intOf (Value.int .i64 ((k : Int) + 1))).toNat < n - (intOf (Value.int .i64 (k : Int))).toNat := fun e =>
                ⟨⟨k + 1, hlt, by rw [Sk_no e], rfl, m.no e⟩, by simp [intOf]; omega⟩
              replace done := hide done
              rcases hcg : cg k with _ | _
              · rw [hcg] at g4
                have E : gone nn bl bh cg k = false := by simp [gone, hcg]
                replace done := hide (unhide done E)
                clear E hcg
                go_wp2_with fail
                exact unhide done
              · rw [hcg] at g4
                by_cases e0 : nn k = 0
                · rw [e0] at g0
                  by_cases e1 : bl k = 0
                  · rw [e1] at g1
                    by_cases e2 : bh k = 0
                    · rw [e2] at g2
                      have E : gone nn bl bh cg k = true := by simp [gone, hcg, idleB, e0, e1, e2]
                      clear done e0 e1 e2 hcg
                      obtain ⟨j, x, mm, y1, y2, y3, y4, y5, y6, ⟨⟨v7, y7⟩, y8⟩, ⟨⟨v9, y9⟩, y10⟩, ⟨⟨v11, y11⟩, y12⟩, y13, y14⟩ := m.yes hlt E
                      rw [y1]
                      clear E m
                      replace y1 := hide y1
                      replace y13 := hide y13
                      go_wp2_with fail
                      exact ⟨⟨k + 1, hlt, by rw [unhide y13], rfl, y14⟩, by simp [intOf]; omega⟩
                    · have E : gone nn bl bh cg k = false := by simp [gone, hcg, idleB, e2]
                      replace done := hide (unhide done E)
                      clear E hcg e0 e1
                      go_wp2_with fail
                      exact unhide done
                  · have E : gone nn bl bh cg k = false := by simp [gone, hcg, idleB, e1]
                    replace done := hide (unhide done E)
                    clear E hcg e0
                    go_wp2_with fail
                    exact unhide done
                · have E : gone nn bl bh cg k = false := by simp [gone, hcg, idleB, e0]
                  replace done := hide (unhide done E)
                  clear E hcg
                  go_wp2_with fail
                  exact unhide done
            · have hkn : n = k := by omega
              subst hkn
              clear T0 hlt hk
              have C9 := call9 g hn (unhide hz) m
              clear m
              go_wp2_with fail
              refine C9.mono ?_
              rintro e W9 ⟨rfl, ka, gk, ck, ca, cc, F⟩
              clear C9
              have c29 := F.ch
              have c11 := F.kept
              have c10 := F.m
              have ln := F.maplen
              go_wp2_with fail
              clear ln c29 c10
              have hlen := F.len
              replace F := hide F
              go_loopw [228] (fun ti wr => ∃ k : Nat, k ≤ (Sk nn bl bh cg n n).K.length ∧ ti = .int .i64 k ∧ wr = W9) (fun ti _ => (Sk nn bl bh cg n n).K.length - (intOf ti).toNat)
              case atStart => exact ⟨0, Nat.zero_le _, rfl, rfl⟩
              case round =>
                obtain ⟨k, hk, rfl, rfl⟩ := hrel
                by_cases hlt : k < (Sk nn bl bh cg n n).K.length
                · obtain ⟨x, hx, h0n, x1, x2, x3, x4⟩ := (unhide F).at_ hlt
                  have hka := (unhide F).hka h0n
                  subst hka
                  have nq := neq52_same
                  go_wp2_with fail
                  exact ⟨⟨k + 1, hlt, rfl, trivial⟩, by simp [intOf]; omega⟩
                · have hkn : k = (Sk nn bl bh cg n n).K.length := by omega
                  subst hkn
                  clear hlt hk c11
                  go_wp2_with fail
                  go_loopw [253] (fun ti wr => ∃ k : Nat, k ≤ n ∧ ti = .int .i64 k ∧ Hid (Fin9 n nn bl bh cg w w1 A ka gk ck ca cc wr)) (fun ti _ => n - (intOf ti).toNat)
                  case atStart => exact ⟨0, Nat.zero_le _, rfl, F⟩
                  case round =>
                    obtain ⟨k, hk, rfl, H⟩ := hrel
                    by_cases hlt : k < n
                    · have he := ha (by omega)
                      subst he
                      obtain ⟨h0, h1, h2, h3, h4⟩ := unhide hc k hlt
                      have B := (unhide H).bel
                      have g0 := (B.cell (p := ⟨b, off + k * 5, none⟩) (hb (by omega))).trans h0
                      have g1 := (B.cell (p := ⟨b, off + k * 5 + 1, none⟩) (hb (by omega))).trans h1
                      have g2 := (B.cell (p := ⟨b, off + k * 5 + 2, none⟩) (hb (by omega))).trans h2
                      clear h0 h1 h2 h3 h4 B
                      have x1 := (unhide H).ac k hlt
                      obtain ⟨z, AK⟩ := (unhide H).acc k hlt
                      obtain ⟨y1, y2, y3, y4, y5, y6, y9⟩ := And.intro AK.c1 (And.intro AK.c2 (And.intro AK.c3 (And.intro AK.c4 (And.intro AK.c5 (And.intro AK.c6 AK.c9)))))
                      clear AK
                      have nq := neq25_same
                      have nqg := guard25
                      go_upto_region 51 with fail
                      go_quiet (fail)
                      go_upto_region 53 with fail
                      have H2 := (unhide H).drawn nq
                      clear H g0 g1 g2 x1 y1 y2 y3 y4 y5 y6 y9 nqg F
                      generalize (wr.drewN nq) = W53 at H2 ⊢
                      have c10 := H2.m
                      obtain ⟨z', AK⟩ := H2.acc k hlt
                      have n0 := AK.c0
                      clear AK
                      have rk := H2.cr k hlt
                      have nqp := neq52_same
                      rcases hr : rmv nn bl bh cg n k with _ | _
                      · rw [hr] at rk
                        have lk := H2.drew.look_in hn hlt hr
                        clear hr
                        replace H2 := hide H2.drew
                        go_region
                        go_wp2_with fail
                        exact ⟨⟨k + 1, hlt, rfl, H2⟩, by simp [intOf]; omega⟩
                      · rw [hr] at rk
                        have lk := H2.drew.look_out hn hlt hr
                        clear hr
                        replace H2 := hide H2.drew
                        go_region
                        go_wp2_with fail
                        exact ⟨⟨k + 1, hlt, rfl, H2⟩, by simp [intOf]; omega⟩
                    · have hkn : n = k := by omega
                      subst hkn
                      clear hlt hk F
                      have s1 := (unhide H).s1
                      have s2 := (unhide H).s2
                      have s3 := (unhide H).s3
                      have s4 := (unhide H).s4
                      go_wp2_with fail
                      refine (len_nil _ _ _ s1).mono ?_
                      rintro e wa ⟨rfl, rfl⟩
                      go_wp2_with fail
                      refine (len_nil _ _ _ s2).mono ?_
                      rintro e wa ⟨rfl, rfl⟩
                      go_wp2_with fail
                      refine (len_nil _ _ _ s3).mono ?_
                      rintro e wa ⟨rfl, rfl⟩
                      go_wp2_with fail
                      go_ret
                      exact ⟨rfl, (unhide H).bel⟩
end Go.Proofs.Ybulkdbbo
