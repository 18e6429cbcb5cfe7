import Derived.Test.Qxb6602318aSd4
namespace Go.Proofs.Qxb6602318a.Sd
open Go.RowKit

theorem inSub_self (i : Nat) : inSub i i = true := by rw [inSub_at i i (by omega)]; simp
theorem inSub_ge {p i : Nat} (h : inSub p i = true) : i ≤ p := by
  rcases Nat.lt_or_ge p i with h' | h'
  · rw [inSub_at p i (by omega)] at h
    have : p = i := by simpa using h
    omega
  · exact h'
theorem inSub_left (j : Nat) : inSub (2 * j + 1) j = true := by
  rw [inSub_up _ _ (by omega), show (2 * j + 1 - 1) / 2 = j by omega]; exact inSub_self j
theorem inSub_right (j : Nat) : inSub (2 * j + 2) j = true := by
  rw [inSub_up _ _ (by omega), show (2 * j + 2 - 1) / 2 = j by omega]; exact inSub_self j
theorem inSub_trans (l j : Nat) (h2 : inSub l j = true) : ∀ m p, p ≤ m → inSub p l = true → inSub p j = true
  | m, p, hm, h => by
    have hl := inSub_ge h
    have hj := inSub_ge h2
    by_cases e : p = l
    · subst e; exact h2
    · rw [inSub_up p j (by omega)]
      rw [inSub_up p l (by omega)] at h
      cases m with
      | zero => omega
      | succ m => exact inSub_trans l j h2 m _ (by omega) h

theorem pick1_yes {K : Nat → ByteArray} {n l c : Nat} (h1 : c < n) (h2 : lessB (K c) (K l) = true) : pick1 K n l c = c := if_pos ⟨h1, h2⟩
theorem pick1_no {K : Nat → ByteArray} {n l c : Nat} (h : ¬ (c < n ∧ lessB (K c) (K l) = true)) : pick1 K n l c = l := if_neg h
theorem pick1_or (K : Nat → ByteArray) (n l c : Nat) : pick1 K n l c = c ∨ pick1 K n l c = l := by
  by_cases h : c < n ∧ lessB (K c) (K l) = true
  · exact .inl (if_pos h)
  · exact .inr (if_neg h)
theorem least2 (K : Nat → ByteArray) (n j : Nat) : leastK K n j 2 = pick1 K n (pick1 K n j (2 * j + 1)) (2 * j + 2) := rfl
theorem least_or (K : Nat → ByteArray) (n j : Nat) : leastK K n j 2 = j ∨ leastK K n j 2 = 2 * j + 1 ∨ leastK K n j 2 = 2 * j + 2 := by
  rw [least2]
  rcases pick1_or K n (pick1 K n j (2 * j + 1)) (2 * j + 2) with h | h
  · exact .inr (.inr h)
  · rw [h]
    rcases pick1_or K n j (2 * j + 1) with h | h
    · exact .inr (.inl h)
    · exact .inl h
theorem least_sub (K : Nat → ByteArray) (n j : Nat) : inSub (leastK K n j 2) j = true := by
  rcases least_or K n j with h | h | h
  · rw [h]; exact inSub_self j
  · rw [h]; exact inSub_left j
  · rw [h]; exact inSub_right j

/-- π is a bijection of the first n places. -/
structure Perm (n : Nat) (π : Nat → Nat) : Prop where
  bnd : ∀ p, p < n → π p < n
  inj : ∀ p q, p < n → q < n → π p = π q → p = q

theorem Perm.swap {n : Nat} {π : Nat → Nat} (h : Perm n π) {i j : Nat} (hi : i < n) (hj : j < n) : Perm n (Sd.swap π i j) := by
  refine ⟨fun p hp => ?_, fun p q hp hq e => ?_⟩
  · unfold Sd.swap; split
    · exact h.bnd j hj
    · split
      · exact h.bnd i hi
      · exact h.bnd p hp
  · unfold Sd.swap at e
    have hpi : p = i ∨ p ≠ i := by omega
    have hpj : p = j ∨ p ≠ j := by omega
    have hqi : q = i ∨ q ≠ i := by omega
    have hqj : q = j ∨ q ≠ j := by omega
    have fin : ∀ a b, a < n → b < n → π a = π b → a = b := h.inj
    by_cases a1 : p = i
    · rw [if_pos a1] at e
      by_cases a2 : q = i
      · omega
      · rw [if_neg a2] at e
        by_cases a3 : q = j
        · rw [if_pos a3] at e; have := fin j i hj hi e; omega
        · rw [if_neg a3] at e; have := fin j q hj hq e; omega
    · rw [if_neg a1] at e
      by_cases b1 : p = j
      · rw [if_pos b1] at e
        by_cases a2 : q = i
        · rw [if_pos a2] at e; have := fin i j hi hj e; omega
        · rw [if_neg a2] at e
          by_cases a3 : q = j
          · omega
          · rw [if_neg a3] at e; have := fin i q hi hq e; omega
      · rw [if_neg b1] at e
        by_cases a2 : q = i
        · rw [if_pos a2] at e; have := fin p j hp hj e; omega
        · rw [if_neg a2] at e
          by_cases a3 : q = j
          · rw [if_pos a3] at e; have := fin p i hp hi e; omega
          · rw [if_neg a3] at e; exact fin p q hp hq e

theorem sift_perm (κ : Nat → ByteArray) (n : Nat) : ∀ f π j, j < n → Perm n π → Perm n (sift κ n f π j)
  | 0, _, _, _, h => h
  | f + 1, π, j, hj, h => by
    rw [sift]
    split
    · exact h
    · exact sift_perm κ n f _ _ (leastK_lt _ n j hj 2) (h.swap hj (leastK_lt _ n j hj 2))
theorem sift_out (κ : Nat → ByteArray) (n : Nat) : ∀ f π j p, inSub p j = false → sift κ n f π j p = π p
  | 0, _, _, _, _ => rfl
  | f + 1, π, j, p, hp => by
    rw [sift]
    split
    · rfl
    · have hs := least_sub (fun p => κ (π p)) n j
      generalize leastK (fun p => κ (π p)) n j 2 = l at *
      have hpl : inSub p l = false := by
        cases h : inSub p l
        · rfl
        · rw [inSub_trans l j hs p p (Nat.le_refl _) h] at hp; exact hp
      rw [sift_out κ n f _ l p hpl]
      have n1 : p ≠ j := fun e => by rw [e, inSub_self] at hp; cases hp
      have n2 : p ≠ l := fun e => by rw [e, inSub_self] at hpl; cases hpl
      simp only [swap, n1, n2, if_false]
theorem sift_stay (κ : Nat → ByteArray) (n f : Nat) (π : Nat → Nat) (j : Nat) (h : leastK (fun p => κ (π p)) n j 2 = j) : sift κ n f π j = π := by
  cases f with
  | zero => rfl
  | succ f => rw [sift, if_pos h]
theorem sift_move (κ : Nat → ByteArray) (n f : Nat) (π : Nat → Nat) (j : Nat) (h : leastK (fun p => κ (π p)) n j 2 ≠ j) : sift κ n (f + 1) π j j = π (leastK (fun p => κ (π p)) n j 2) := by
  rw [sift, if_neg h]
  have hs := least_sub (fun p => κ (π p)) n j
  generalize leastK (fun p => κ (π p)) n j 2 = l at *
  have hjl := inSub_ge hs
  rw [sift_out κ n f _ l j (by rw [inSub_at j l (by omega), beq_eq_false_iff_ne]; exact h.symm)]
  simp [swap]

/-- No child of i has a lesser id: as the law's loop reckons it. -/
def inPl (ss : List ByteArray) (n i : Nat) : Nat → Bool
  | 0 => true
  | k + 1 => inPl ss n i k && !(decide (2 * i + 1 + k < n) && lessB (ss.getD (2 * i + 1 + k) ByteArray.empty) (ss.getD i ByteArray.empty))
theorem inPl2 (ss : List ByteArray) (n i : Nat) : inPl ss n i 2 = (!(decide (2 * i + 1 < n) && lessB (ss.getD (2 * i + 1) ByteArray.empty) (ss.getD i ByteArray.empty)) && !(decide (2 * i + 2 < n) && lessB (ss.getD (2 * i + 2) ByteArray.empty) (ss.getD i ByteArray.empty))) := rfl
theorem inPl_least (ss : List ByteArray) (n i : Nat) : inPl ss n i 2 = true ↔ leastK (fun p => ss.getD p ByteArray.empty) n i 2 = i := by
  rw [inPl2, least2]
  have conv : ∀ c : Nat, (decide (c < n) && lessB (ss.getD c ByteArray.empty) (ss.getD i ByteArray.empty)) = true ↔ (c < n ∧ lessB ((fun p => ss.getD p ByteArray.empty) c) ((fun p => ss.getD p ByteArray.empty) i) = true) := by
    intro c; rw [Bool.and_eq_true, decide_eq_true_iff]
  rw [Bool.and_eq_true, Bool.not_eq_true', Bool.not_eq_true', ← Bool.not_eq_true, ← Bool.not_eq_true, conv, conv]
  generalize (fun p => ss.getD p ByteArray.empty) = K
  by_cases a : 2 * i + 1 < n ∧ lessB (K (2 * i + 1)) (K i) = true
  · rw [pick1_yes a.1 a.2]
    constructor
    · intro h; exact absurd a h.1
    · intro h
      rcases pick1_or K n (2 * i + 1) (2 * i + 2) with e | e <;> omega
  · rw [pick1_no a]
    by_cases c : 2 * i + 2 < n ∧ lessB (K (2 * i + 2)) (K i) = true
    · rw [pick1_yes c.1 c.2]
      constructor
      · intro h; exact absurd c h.2
      · intro h; omega
    · rw [pick1_no c]
      exact ⟨fun _ => rfl, fun _ => ⟨a, c⟩⟩

/-- Do the first k places hold their own heads? -/
def unch (π : Nat → Nat) : Nat → Bool
  | 0 => true
  | k + 1 => unch π k && (π k == k)
theorem unch_id : ∀ k, unch (fun p => p) k = true
  | 0 => rfl
  | k + 1 => by rw [unch, unch_id k]; simp
theorem unch_not (π : Nat → Nat) (i : Nat) (h : π i ≠ i) : ∀ k, i < k → unch π k = false
  | 0, h => absurd h (Nat.not_lt_zero _)
  | k + 1, hk => by
    rw [unch]
    rcases Nat.lt_or_eq_of_le (Nat.le_of_lt_succ hk) with h' | h'
    · rw [unch_not π i h k h', Bool.false_and]
    · subst h'
      rw [beq_eq_false_iff_ne.2 h, Bool.and_false]

/-- THE PLAIN LAW of the second statement on siftDown. -/
theorem moves_law (ss : List ByteArray) (n i : Nat) (hi : i < n) : unch (sift (fun o => ss.getD o ByteArray.empty) n n (fun p => p) i) n = inPl ss n i 2 := by
  by_cases h : leastK (fun p => ss.getD p ByteArray.empty) n i 2 = i
  · rw [sift_stay _ _ _ _ _ h, unch_id, (inPl_least ss n i).2 h]
  · have hn : inPl ss n i 2 = false := by
      cases e : inPl ss n i 2
      · rfl
      · exact absurd ((inPl_least ss n i).1 e) h
    rw [hn]
    obtain ⟨f, rfl⟩ : ∃ f, n = f + 1 := ⟨n - 1, by omega⟩
    refine unch_not _ i ?_ _ hi
    rw [sift_move _ _ _ _ _ h]
    exact h

end Go.Proofs.Qxb6602318a.Sd
