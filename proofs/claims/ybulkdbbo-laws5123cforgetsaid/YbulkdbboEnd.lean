/-
  LawS5123CForget: the facts of its last two loops.
-/
import Derived.Test.YbulkdbboFin
import Derived.BigQuiet
namespace Go.Proofs.Ybulkdbbo
open Go.RowKit Go.Lib

theorem info58 : (Yba.prog.info? 58).map (fun i => i.size) = some 11 := by kernel_rfl
theorem same52 (d : Nat) (a : Addr) (w : World) : (Op.equalIn (d + 1) 52 (.pointer (some a)) (.pointer (some a))).run Yba.prog w = .ok true w := by
  obtain ⟨i, hi, hz⟩ := Option.map_eq_some_iff.1 info58
  simp [Op.equalIn, run_underlying Yba.underlying52, sizeOf, typeInfo, hi, run_sameAddr_same]
theorem neq52_same (a : Addr) (w : World) : (binOp .neq 52 (.pointer (some a)) (.pointer (some a))).run Yba.prog w = .ok (.bool false) w := by
  simp only [binOp]
  simp [Op.equal, Op.maxDepth, same52 9999]
theorem neq25_same (x0 x1 x2 x3 : Int) (w : World) :
    (binOp .neq 25 (.agg #[.int .u64 x0, .int .u64 x1, .int .u64 x2, .int .u64 x3]) (.agg #[.int .u64 x0, .int .u64 x1, .int .u64 x2, .int .u64 x3])).run Yba.prog w = .ok (.bool false) w := by
  have h := eql25 x0 x1 x2 x3 x0 x1 x2 x3 w
  rw [run_eql_struct] at h
  rw [run_neq_struct]
  generalize (Op.equalIn 10000 25 (.agg #[.int .u64 x0, .int .u64 x1, .int .u64 x2, .int .u64 x3]) (.agg #[.int .u64 x0, .int .u64 x1, .int .u64 x2, .int .u64 x3])).run Yba.prog w = r at h ⊢
  cases r <;> simp_all

theorem len_nil (p o : Nat) (w : World) (h : w.cell? ⟨p, o, none⟩ = some (.slice none 0 0)) : Calls Yba.prog 10 #[.pointer (some ⟨p, o, none⟩)] w fun e w' => e = .returned (.int .i64 0) ∧ w' = w := by
  go_enter Yba.func10, Yba.ntmps10
  go_wp2
  go_ret
  exact ⟨rfl, rfl⟩

section
variable {n : Nat} {nn bl bh : Nat → Int} {cg : Nat → Bool} {w0 w1 w : World} {A : Nat → Nat} {ka ca : Option Addr} {gk ck cc : Nat}
/-- What the round of 'range p.kept' reads. -/
theorem Fin9.at_ (h : Fin9 n nn bl bh cg w0 w1 A ka gk ck ca cc w) {k : Nat} (hk : k < (Sk nn bl bh cg n n).K.length) :
    ∃ x, x < n ∧ 0 < n ∧ w.cell? ⟨gk, k, none⟩ = some (.pointer (some ⟨A x, 0, none⟩)) ∧ w.cell? ⟨w1.heap.size, k, none⟩ = some (.int .i64 (x : Nat)) ∧ w.cell? ⟨w0.heap.size + 1 + 1, x, none⟩ = some (.pointer (some ⟨A x, 0, none⟩)) ∧ w.cell? ⟨A x, 8, none⟩ = some (.int .i64 (k : Nat)) := by
  have q := Sk_KL (nn := nn) (bl := bl) (bh := bh) (cg := cg) (Nat.le_refl n)
  obtain ⟨hm, hf⟩ := q.mem k hk
  have hx := q.lt _ hm
  obtain ⟨z, hz⟩ := h.acc _ hx
  have h8 := hz.c8
  rw [hf] at h8
  exact ⟨_, hx, by omega, h.kc k hk, h.cm k hk, h.ac _ hx, h8⟩
theorem Fin9.drawn (h : Fin9 n nn bl bh cg w0 w1 A ka gk ck ca cc w) (m : Nat) : Fin9 n nn bl bh cg w0 w1 A ka gk ck ca cc (w.drewN m) :=
  ⟨h.bel.trans ⟨rfl, rfl, rfl, Nat.le_refl _, fun _ _ => rfl⟩, h.ch, h.kept, h.m, h.es, h.s1, h.s2, h.s3, h.s4, h.kc, h.ac, fun x hx => by
    obtain ⟨q, hq⟩ := h.acc x hx
    exact ⟨q, hq.same rfl⟩, h.cm, h.cr, h.hka⟩
theorem Fin9.len (h : Fin9 n nn bl bh cg w0 w1 A ka gk ck ca cc w) : (Sk nn bl bh cg n n).K.length ≤ n := by
  have := h.bel
  exact (Sk_KL (nn := nn) (bl := bl) (bh := bh) (cg := cg) (Nat.le_refl n)).len_le
end
end Go.Proofs.Ybulkdbbo
