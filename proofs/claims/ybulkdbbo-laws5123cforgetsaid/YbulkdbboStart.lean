/-
  LawS5123CForget: what the law starts from.
-/
import Derived.Test.YbulkdbboFill
import Derived.WalkLawsBesides
import Derived.Laws.BytesArg
namespace Go.Proofs.Ybulkdbbo
open Go.RowKit Go.Lib

def acs0 (n : Nat) : Array Value := madeCells #[.pointer none] n
theorem make39 (n : Nat) (hn : n ≤ 1024) (w : World) : (Instr.makeSlice 39 (.int .i64 (n : Int)) (.int .i64 (n : Int))).run Yba.prog w = .ok (.slice (some ⟨w.heap.size, 0, none⟩) n n) (w.alloc (.cells (acs0 n) 52)) := by
  obtain ⟨i, hi, h1, h2, h3⟩ := info_parts info52
  have hr := run_make (P := Yba.prog) w 39 52 i _ Yba.underlying39 hi h1 .i64 .i64 n n (by omega) (Int.le_refl _) (by rw [h3]; omega) (by omega)
  simp only [Int.toNat_natCast, h2, Value.cells, Nat.mul_one] at hr
  exact hr

/-- An account's sender. -/
def name (i : Nat) : ByteArray := strOfNums [115, (i : Int) % 256, (i : Int) / 256]

theorem conv_name (i : Nat) (w : World) : (convert 54 9 (.slice (some ⟨w.heap.size, 0, none⟩) 3 3)).run Yba.prog (w.alloc (.cells #[.int .u8 115, .int .u8 ((i : Int) % 256), .int .u8 ((i : Int) / 256)] 5)).drew = .ok (.string (name i)) (w.alloc (.cells #[.int .u8 115, .int .u8 ((i : Int) % 256), .int .u8 ((i : Int) / 256)] 5)).drew := by
  refine run_convert_bytes_arg _ 54 5 Yba.underlying54 Yba.underlying5 w.heap.size 0 3 3 [115, (i : Int) % 256, (i : Int) / 256] rfl ?_ 9 Yba.underlying9
  intro j hj
  have : j = 0 ∨ j = 1 ∨ j = 2 := by omega
  rcases this with rfl | rfl | rfl <;> simp

theorem name_inj (i j : Nat) (hi : i < 1024) (hj : j < 1024) (h : name i = name j) : i = j := by
  unfold name strOfNums at h
  simp at h
  obtain ⟨h1, h2⟩ := h
  have e1 : ((i : Int) % 256).toNat = i % 256 := by omega
  have e2 : ((j : Int) % 256).toNat = j % 256 := by omega
  have e3 : ((i : Int) / 256).toNat = i / 256 := by omega
  have e4 : ((j : Int) / 256).toNat = j / 256 := by omega
  rw [e1, e2] at h1
  rw [e3, e4] at h2
  have f1 := congrArg UInt8.toNat h1
  have f2 := congrArg UInt8.toNat h2
  simp at f1 f2
  omega

theorem acct_new (w : World) (s : ByteArray) (nn bl bh : Int) (k : Nat) : AcctIs (w.alloc (.cells #[.string s, .int .u64 nn, .int .u64 bl, .int .u64 0, .int .u64 0, .int .u64 bh, .slice none 0 0, .int .i64 0, .int .i64 k, .bool false, .int .u64 0] 58)) w.heap.size s nn bl bh k false 0 := by
  constructor <;> simp

/-- The law's data at world w. -/
def dat (n : Nat) (nn bl bh fr : Nat → Int) (cg : Nat → Bool) (w : World) : Dt := ⟨n, nn, bl, bh, fr, cg, name, w.heap.size, w.heap.size + 1, w.heap.size + 1 + 1, w.heap.size + 1 + 1 + 1⟩
theorem dat_lies (n : Nat) (nn bl bh fr : Nat → Int) (cg : Nat → Bool) (w : World) : Lies (dat n nn bl bh fr cg w) w :=
  ⟨Nat.le_refl _, Nat.lt_succ_self _, Nat.lt_succ_self _, Nat.lt_succ_self _⟩
/-- What 'placeFrom' is. -/
def frp (fr : Nat → Int) (cg : Nat → Bool) (x : Nat) : Int := if cg x then fr x else 0

theorem G_start (n : Nat) (nn bl bh fr : Nat → Int) (cg : Nat → Bool) (w : World) :
    G (dat n nn bl bh fr cg w) w (fun _ => 0) 0 0 0 0 0 cg (frp fr cg) (.slice none 0 0) (.slice none 0 0) (((w.alloc (.map #[] 0)).alloc (.cells #[.int .u64 0, .int .u64 0, .int .u64 0, .int .u64 0, .int .u64 0, .int .u64 0, .int .u64 0, .nilFunc, .nilFunc, .nilFunc, .map (some w.heap.size), .slice none 0 0, .slice none 0 0, .map none, .int .u64 0, .int .u64 0, .int .u64 0, .map none, .slice none 0 0, .int .u64 0, .int .u64 0, .int .u64 0, .int .u64 0, .slice none 0 0, .nilFunc, .slice none 0 0, .nilFunc, .slice none 0 0, .nilFunc, .slice none 0 0, .slice none 0 0, .int .i64 0, .int .u64 0, .slice none 0 0, .slice none 0 0, .slice none 0 0] 51)).alloc (.cells (acs0 n) 52)) := by
  have hB : Below w.heap.size w (((w.alloc (.map #[] 0)).alloc (.cells #[.int .u64 0, .int .u64 0, .int .u64 0, .int .u64 0, .int .u64 0, .int .u64 0, .int .u64 0, .nilFunc, .nilFunc, .nilFunc, .map (some w.heap.size), .slice none 0 0, .slice none 0 0, .map none, .int .u64 0, .int .u64 0, .int .u64 0, .map none, .slice none 0 0, .int .u64 0, .int .u64 0, .int .u64 0, .int .u64 0, .slice none 0 0, .nilFunc, .slice none 0 0, .nilFunc, .slice none 0 0, .nilFunc, .slice none 0 0, .slice none 0 0, .int .i64 0, .int .u64 0, .slice none 0 0, .slice none 0 0, .slice none 0 0] 51)).alloc (.cells (acs0 n) 52)) := by go_grown
  have hS : w.heap.size + 1 + 1 + 1 ≤ (((w.alloc (.map #[] 0)).alloc (.cells #[.int .u64 0, .int .u64 0, .int .u64 0, .int .u64 0, .int .u64 0, .int .u64 0, .int .u64 0, .nilFunc, .nilFunc, .nilFunc, .map (some w.heap.size), .slice none 0 0, .slice none 0 0, .map none, .int .u64 0, .int .u64 0, .int .u64 0, .map none, .slice none 0 0, .int .u64 0, .int .u64 0, .int .u64 0, .int .u64 0, .slice none 0 0, .nilFunc, .slice none 0 0, .nilFunc, .slice none 0 0, .nilFunc, .slice none 0 0, .slice none 0 0, .int .i64 0, .int .u64 0, .slice none 0 0, .slice none 0 0, .slice none 0 0] 51)).alloc (.cells (acs0 n) 52)).heap.size := by simp
  have c : ∀ o v, #[.int .u64 0, .int .u64 0, .int .u64 0, .int .u64 0, .int .u64 0, .int .u64 0, .int .u64 0, .nilFunc, .nilFunc, .nilFunc, .map (some w.heap.size), .slice none 0 0, .slice none 0 0, .map none, .int .u64 0, .int .u64 0, .int .u64 0, .map none, .slice none 0 0, .int .u64 0, .int .u64 0, .int .u64 0, .int .u64 0, .slice none 0 0, .nilFunc, .slice none 0 0, .nilFunc, .slice none 0 0, .nilFunc, .slice none 0 0, .slice none 0 0, .int .i64 0, .int .u64 0, .slice none 0 0, .slice none 0 0, .slice none 0 0][o]? = some v → (((w.alloc (.map #[] 0)).alloc (.cells #[.int .u64 0, .int .u64 0, .int .u64 0, .int .u64 0, .int .u64 0, .int .u64 0, .int .u64 0, .nilFunc, .nilFunc, .nilFunc, .map (some w.heap.size), .slice none 0 0, .slice none 0 0, .map none, .int .u64 0, .int .u64 0, .int .u64 0, .map none, .slice none 0 0, .int .u64 0, .int .u64 0, .int .u64 0, .int .u64 0, .slice none 0 0, .nilFunc, .slice none 0 0, .nilFunc, .slice none 0 0, .nilFunc, .slice none 0 0, .slice none 0 0, .int .i64 0, .int .u64 0, .slice none 0 0, .slice none 0 0, .slice none 0 0] 51)).alloc (.cells (acs0 n) 52)).cell? ⟨w.heap.size + 1, o, none⟩ = some v := fun o v h => by
    rw [World.cell?_alloc_past _ _ _ (by simp), World.cell?_alloc_at _ _ _ _ (by simp)]; exact h
  have f : ∀ o, (((w.alloc (.map #[] 0)).alloc (.cells #[.int .u64 0, .int .u64 0, .int .u64 0, .int .u64 0, .int .u64 0, .int .u64 0, .int .u64 0, .nilFunc, .nilFunc, .nilFunc, .map (some w.heap.size), .slice none 0 0, .slice none 0 0, .map none, .int .u64 0, .int .u64 0, .int .u64 0, .map none, .slice none 0 0, .int .u64 0, .int .u64 0, .int .u64 0, .int .u64 0, .slice none 0 0, .nilFunc, .slice none 0 0, .nilFunc, .slice none 0 0, .nilFunc, .slice none 0 0, .slice none 0 0, .int .i64 0, .int .u64 0, .slice none 0 0, .slice none 0 0, .slice none 0 0] 51)).alloc (.cells (acs0 n) 52)).frozen? ⟨w.heap.size + 1, o, none⟩ = false := fun o => by
    rw [World.frozen?_alloc_past _ _ _ (by simp), World.frozen?_alloc_at _ _ _ _ (by simp)]
  refine ⟨⟨c _ _ rfl, c _ _ rfl, c _ _ rfl, c _ _ rfl, c _ _ rfl, c _ _ rfl, c _ _ rfl, c _ _ rfl, c _ _ rfl, c _ _ rfl, c _ _ rfl, f _, f _⟩, ?_, ⟨fun x hx => absurd hx (by omega), fun x hx => ?_⟩, fun x hx => absurd hx (by omega), World.ownsRow_nil _ _ _ _, World.ownsRow_nil _ _ _ _, fun x hx => absurd hx (by omega), fun x y hx => absurd hx (by omega), fun x g hx => absurd hx (by omega), fun x g hx => absurd hx (by omega), fun g g' hg => by simp [Value.ownBlock] at hg, hB, hS⟩
  · show (((w.heap.push _).push _).push _)[w.heap.size]? = _
    rw [Array.getElem?_push, if_neg (by simp; omega), Array.getElem?_push, if_neg (by simp), Array.getElem?_push, if_pos rfl]
    rfl
  · have hx' : x < n := hx
    show (∃ v, (((w.alloc (.map #[] 0)).alloc (.cells #[.int .u64 0, .int .u64 0, .int .u64 0, .int .u64 0, .int .u64 0, .int .u64 0, .int .u64 0, .nilFunc, .nilFunc, .nilFunc, .map (some w.heap.size), .slice none 0 0, .slice none 0 0, .map none, .int .u64 0, .int .u64 0, .int .u64 0, .map none, .slice none 0 0, .int .u64 0, .int .u64 0, .int .u64 0, .int .u64 0, .slice none 0 0, .nilFunc, .slice none 0 0, .nilFunc, .slice none 0 0, .nilFunc, .slice none 0 0, .slice none 0 0, .int .i64 0, .int .u64 0, .slice none 0 0, .slice none 0 0, .slice none 0 0] 51)).alloc (.cells (acs0 n) 52)).cell? ⟨w.heap.size + 1 + 1, x, none⟩ = some v) ∧ (((w.alloc (.map #[] 0)).alloc (.cells #[.int .u64 0, .int .u64 0, .int .u64 0, .int .u64 0, .int .u64 0, .int .u64 0, .int .u64 0, .nilFunc, .nilFunc, .nilFunc, .map (some w.heap.size), .slice none 0 0, .slice none 0 0, .map none, .int .u64 0, .int .u64 0, .int .u64 0, .map none, .slice none 0 0, .int .u64 0, .int .u64 0, .int .u64 0, .int .u64 0, .slice none 0 0, .nilFunc, .slice none 0 0, .nilFunc, .slice none 0 0, .nilFunc, .slice none 0 0, .slice none 0 0, .int .i64 0, .int .u64 0, .slice none 0 0, .slice none 0 0, .slice none 0 0] 51)).alloc (.cells (acs0 n) 52)).frozen? ⟨w.heap.size + 1 + 1, x, none⟩ = false
    rw [World.cell?_alloc_at _ _ _ _ (by simp), World.frozen?_alloc_at _ _ _ _ (by simp)]
    have hs : (acs0 n).size = n := size_madeCells _ _
    exact ⟨⟨(acs0 n)[x], by simp [hs, hx']⟩, rfl⟩
end Go.Proofs.Ybulkdbbo
