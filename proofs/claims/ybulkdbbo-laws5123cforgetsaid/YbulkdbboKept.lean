/-
  The plain part of LawS5123CForget: the list of accounts kept, where each stands, and one removal.
-/
import Derived.Test.YbulkdbboMap
namespace Go.Proofs.Ybulkdbbo

def lastOf (K : List Nat) : Nat := K.getD (K.length - 1) 0
def outK (K : List Nat) (j : Nat) : List Nat := (K.set j (lastOf K)).take (K.length - 1)
def outF (K : List Nat) (f : Nat → Nat) (j : Nat) : Nat → Nat := fun y => if y = lastOf K then j else f y

structure KL (N : Nat) (K : List Nat) (f : Nat → Nat) (L : List Nat) : Prop where
  lt : ∀ x ∈ L, x < N
  at_ : ∀ x ∈ L, f x < K.length ∧ K.getD (f x) 0 = x
  mem : ∀ j, j < K.length → K.getD j 0 ∈ L ∧ f (K.getD j 0) = j
  len : K.length = L.length
  nodup : L.Nodup

theorem outK_length (K : List Nat) (j : Nat) : (outK K j).length = K.length - 1 := by simp [outK]
theorem outK_get (K : List Nat) (j i : Nat) (hi : i < K.length - 1) : (outK K j).getD i 0 = if i = j then lastOf K else K.getD i 0 := by
  unfold outK
  rw [List.getD, List.getElem?_take_of_lt hi, List.getElem?_set]
  by_cases e : j = i
  · subst e
    simp [show j < K.length by omega]
  · rw [if_neg e, if_neg (Ne.symm e)]
    rfl

theorem KL.step {N : Nat} {K : List Nat} {f : Nat → Nat} {L : List Nat} (h : KL N K f L) {x : Nat} (hx : x ∈ L) : KL N (outK K (f x)) (outF K f (f x)) (L.erase x) := by
  obtain ⟨hj, hK⟩ := h.at_ x hx
  have hm : K.length - 1 < K.length := by omega
  obtain ⟨hl, hfl⟩ := h.mem (K.length - 1) hm
  have hl' : lastOf K ∈ L := hl
  have hfl' : f (lastOf K) = K.length - 1 := hfl
  have key : f x = K.length - 1 → x = lastOf K := fun e => by rw [← hK, e]; rfl
  have inj : ∀ y, y ∈ L → f y = f x → y = x := fun y hy e => by
    have := (h.at_ y hy).2
    rw [e, hK] at this
    exact this.symm
  refine ⟨fun y hy => h.lt y (List.mem_of_mem_erase hy), fun y hy => ?_, fun i hi => ?_, ?_, h.nodup.erase x⟩
  · have hyL := List.mem_of_mem_erase hy
    have hyx : y ≠ x := by
      intro e
      subst e
      exact absurd hy (by simpa using h.nodup.not_mem_erase)
    rw [outK_length]
    unfold outF
    by_cases e : y = lastOf K
    · rw [if_pos e]
      have hne : f x ≠ K.length - 1 := fun k => hyx (e.trans (key k).symm)
      refine ⟨by omega, ?_⟩
      rw [outK_get K (f x) (f x) (by omega), if_pos rfl, e]
    · rw [if_neg e]
      obtain ⟨h1, h2⟩ := h.at_ y hyL
      have hne : f y ≠ K.length - 1 := fun k => e (by rw [← h2, k]; rfl)
      refine ⟨by omega, ?_⟩
      rw [outK_get K (f x) (f y) (by omega), if_neg (fun k => hyx (inj y hyL k)), h2]
  · rw [outK_length] at hi
    rw [outK_get K (f x) i hi]
    by_cases e : i = f x
    · rw [if_pos e]
      have hne : lastOf K ≠ x := fun k => by rw [k] at hfl'; omega
      refine ⟨(List.mem_erase_of_ne hne).2 hl', ?_⟩
      unfold outF
      rw [if_pos rfl, e]
    · rw [if_neg e]
      obtain ⟨h1, h2⟩ := h.mem i (by omega)
      have hne : K.getD i 0 ≠ x := fun k => by rw [k] at h2; exact e h2.symm
      have hnl : K.getD i 0 ≠ lastOf K := fun k => by rw [k, hfl'] at h2; omega
      refine ⟨(List.mem_erase_of_ne hne).2 h1, ?_⟩
      unfold outF
      rw [if_neg hnl, h2]
  · rw [outK_length, h.len, List.length_erase_of_mem hx]

/-- The whole plain state. -/
structure St where
  K : List Nat
  f : Nat → Nat
  L : List Nat

def St.out (s : St) (x : Nat) : St := ⟨outK s.K (s.f x), outF s.K s.f (s.f x), s.L.erase x⟩
def stepIf (idle : Nat → Bool) (s : St) (x : Nat) : St := if idle x then s.out x else s
def st0 (n : Nat) : St := ⟨List.range n, fun x => x, List.range n⟩
/-- After the numbers in l. -/
def after (idle : Nat → Bool) (n : Nat) (l : List Nat) : St := l.foldl (stepIf idle) (st0 n)

theorem KL.start (n : Nat) : KL n (List.range n) (fun x => x) (List.range n) :=
  ⟨fun x hx => by simpa using hx, fun x hx => by have h : x < n := by simpa using hx
                                                 simp [List.getD, h], fun j hj => by have h : j < n := by simpa using hj
                                                                                     simp [List.getD, h], rfl, List.nodup_range⟩

theorem after_snoc (idle : Nat → Bool) (n : Nat) (l : List Nat) (x : Nat) : after idle n (l ++ [x]) = stepIf idle (after idle n l) x := by simp [after]

theorem fold_mem (idle : Nat → Bool) (z : Nat) : ∀ (l : List Nat) (s : St), z ∈ s.L → z ∉ l → z ∈ (l.foldl (stepIf idle) s).L
  | [], _, h, _ => h
  | x :: l, s, h, hn => by
    refine fold_mem idle z l _ ?_ (fun k => hn (by simp [k]))
    unfold stepIf
    split
    · exact (List.mem_erase_of_ne (fun e => hn (by simp [e]))).2 h
    · exact h

theorem fold_KL (idle : Nat → Bool) (n : Nat) : ∀ (l : List Nat) (s : St), KL n s.K s.f s.L → l.Nodup → (∀ x ∈ l, x ∈ s.L) → KL n (l.foldl (stepIf idle) s).K (l.foldl (stepIf idle) s).f (l.foldl (stepIf idle) s).L
  | [], _, h, _, _ => h
  | x :: l, s, h, hn, hm => by
    have hn' := List.nodup_cons.1 hn
    refine fold_KL idle n l (stepIf idle s x) ?_ hn'.2 (fun y hy => ?_)
    · unfold stepIf
      split
      · exact h.step (hm x (by simp))
      · exact h
    · have hyx : y ≠ x := fun e => hn'.1 (e ▸ hy)
      have hyL := hm y (by simp [hy])
      unfold stepIf
      split
      · exact (List.mem_erase_of_ne hyx).2 hyL
      · exact hyL

theorem after_KL (idle : Nat → Bool) (n : Nat) (l : List Nat) (hn : l.Nodup) (hm : ∀ x ∈ l, x < n) : KL n (after idle n l).K (after idle n l).f (after idle n l).L :=
  fold_KL idle n l (st0 n) (KL.start n) hn (fun x hx => by simpa [st0] using hm x hx)
theorem after_mem (idle : Nat → Bool) (n : Nat) (l : List Nat) (z : Nat) (hz : z < n) (hn : z ∉ l) : z ∈ (after idle n l).L :=
  fold_mem idle z l (st0 n) (by simpa [st0] using hz) hn

/-- The numbers that are left are those that were not both listed and idle. -/
theorem fold_left (idle : Nat → Bool) (z : Nat) : ∀ (l : List Nat) (s : St), s.L.Nodup → (z ∈ (l.foldl (stepIf idle) s).L ↔ z ∈ s.L ∧ ¬ (z ∈ l ∧ idle z = true)) ∧ (l.foldl (stepIf idle) s).L.Nodup
  | [], _, h => by simp [h]
  | x :: l, s, h => by
    have h' : (stepIf idle s x).L.Nodup := by
      unfold stepIf
      split
      · exact h.erase x
      · exact h
    obtain ⟨i1, i2⟩ := fold_left idle z l (stepIf idle s x) h'
    refine ⟨?_, i2⟩
    show z ∈ (l.foldl (stepIf idle) (stepIf idle s x)).L ↔ _
    rw [i1]
    have e : z ∈ (stepIf idle s x).L ↔ z ∈ s.L ∧ ¬ (z = x ∧ idle z = true) := by
      unfold stepIf
      by_cases hi : idle x = true
      · rw [if_pos hi]
        show z ∈ s.L.erase x ↔ _
        rw [h.mem_erase_iff]
        constructor
        · rintro ⟨a, b⟩; exact ⟨b, fun k => a k.1⟩
        · rintro ⟨a, b⟩; exact ⟨fun k => b ⟨k, k ▸ hi⟩, a⟩
      · rw [if_neg hi]
        constructor
        · intro a; exact ⟨a, fun k => hi (k.1 ▸ k.2)⟩
        · exact fun a => a.1
    rw [e]
    constructor
    · rintro ⟨⟨a, b⟩, c⟩
      refine ⟨a, fun k => ?_⟩
      rcases List.mem_cons.1 k.1 with k1 | k1
      · exact b ⟨k1, k.2⟩
      · exact c ⟨k1, k.2⟩
    · rintro ⟨a, b⟩
      exact ⟨⟨a, fun k => b ⟨by simp [k.1], k.2⟩⟩, fun k => b ⟨by simp [k.1], k.2⟩⟩

theorem after_left (idle : Nat → Bool) (n : Nat) (l : List Nat) (z : Nat) : z ∈ (after idle n l).L ↔ z < n ∧ ¬ (z ∈ l ∧ idle z = true) := by
  have := (fold_left idle z l (st0 n) (by simpa [st0] using List.nodup_range)).1
  unfold after
  rw [this]
  simp [st0]
end Go.Proofs.Ybulkdbbo
