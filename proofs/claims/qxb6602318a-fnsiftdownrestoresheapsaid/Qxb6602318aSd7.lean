import Derived.Test.Qxb6602318aSd6
namespace Go.Proofs.Qxb6602318a.Sd
open Go.RowKit

theorem bl_asymm : ∀ (x y : List UInt8), Op.bytesLess x y = true → Op.bytesLess y x = false
  | _, [], h => by cases ‹List UInt8› <;> simp [Op.bytesLess] at h
  | [], b :: y, _ => by simp [Op.bytesLess]
  | a :: x, b :: y, h => by
    simp only [Op.bytesLess, Bool.or_eq_true, Bool.and_eq_true, decide_eq_true_iff, beq_iff_eq] at h
    simp only [Op.bytesLess, Bool.or_eq_false_iff, Bool.and_eq_false_iff, decide_eq_false_iff_not, beq_eq_false_iff_ne]
    rcases h with h | ⟨rfl, h⟩
    · rw [UInt8.lt_iff_toNat_lt] at h
      refine ⟨by rw [UInt8.lt_iff_toNat_lt]; omega, .inl ?_⟩
      intro e; subst e; omega
    · refine ⟨by rw [UInt8.lt_iff_toNat_lt]; omega, .inr (bl_asymm x y h)⟩
theorem bl_trans : ∀ (x y z : List UInt8), Op.bytesLess y x = false → Op.bytesLess z y = false → Op.bytesLess z x = false
  | [], _, z, _, _ => by cases z <;> simp [Op.bytesLess]
  | a :: x, [], _, h, _ => by simp [Op.bytesLess] at h
  | a :: x, b :: y, [], _, h => by simp [Op.bytesLess] at h
  | a :: x, b :: y, c :: z, h1, h2 => by
    simp only [Op.bytesLess, Bool.or_eq_false_iff, Bool.and_eq_false_iff, decide_eq_false_iff_not, beq_eq_false_iff_ne, UInt8.lt_iff_toNat_lt] at h1 h2 ⊢
    refine ⟨by omega, ?_⟩
    by_cases e : c = a
    · subst e
      have e2 : b.toNat = c.toNat := by omega
      have e3 : b = c := UInt8.toNat_inj.1 e2
      subst e3
      rcases h1.2 with h | h
      · exact absurd rfl h
      · rcases h2.2 with h' | h'
        · exact absurd rfl h'
        · exact .inr (bl_trans x y z h h')
    · exact .inl e

/-- a is at most b. -/
def Le (a b : ByteArray) : Prop := lessB b a = false
theorem Le.of_less {a b : ByteArray} (h : lessB a b = true) : Le a b := bl_asymm _ _ h
theorem Le.trans {a b c : ByteArray} (h1 : Le a b) (h2 : Le b c) : Le a c := bl_trans _ _ _ h1 h2
theorem Le.refl (a : ByteArray) : Le a a := by
  unfold Le
  cases h : lessB a a
  · rfl
  · have := bl_asymm _ _ h
    unfold lessB at h; rw [h] at this; exact this

/-- Place p is at most each of its children. -/
def OkAt (K : Nat → ByteArray) (n p : Nat) : Prop := (2 * p + 1 < n → Le (K p) (K (2 * p + 1))) ∧ (2 * p + 2 < n → Le (K p) (K (2 * p + 2)))
/-- A heap, but for what lies below place 'skip'. -/
def HeapEx (K : Nat → ByteArray) (n : Nat) (skip : Int) : Prop := ∀ p, p < n → (p : Int) ≠ skip → OkAt K n p
/-- No child of j is less than j's parent. -/
def ChildOk (K : Nat → ByteArray) (n j : Nat) : Prop := 0 < j → (2 * j + 1 < n → Le (K ((j - 1) / 2)) (K (2 * j + 1))) ∧ (2 * j + 2 < n → Le (K ((j - 1) / 2)) (K (2 * j + 2)))

theorem pick1_le (K : Nat → ByteArray) (n l c : Nat) : Le (K (pick1 K n l c)) (K l) ∧ (c < n → Le (K (pick1 K n l c)) (K c)) := by
  by_cases h : c < n ∧ lessB (K c) (K l) = true
  · rw [pick1_yes h.1 h.2]
    exact ⟨Le.of_less h.2, fun _ => Le.refl _⟩
  · rw [pick1_no h]
    refine ⟨Le.refl _, fun hc => ?_⟩
    unfold Le
    cases e : lessB (K c) (K l)
    · rfl
    · exact absurd ⟨hc, e⟩ h
theorem least_le (K : Nat → ByteArray) (n j : Nat) : Le (K (leastK K n j 2)) (K j) ∧ (2 * j + 1 < n → Le (K (leastK K n j 2)) (K (2 * j + 1))) ∧ (2 * j + 2 < n → Le (K (leastK K n j 2)) (K (2 * j + 2))) := by
  rw [least2]
  obtain ⟨a1, a2⟩ := pick1_le K n j (2 * j + 1)
  obtain ⟨b1, b2⟩ := pick1_le K n (pick1 K n j (2 * j + 1)) (2 * j + 2)
  exact ⟨b1.trans a1, fun h => b1.trans (a2 h), b2⟩

theorem sift_heap (κ : Nat → ByteArray) (n : Nat) : ∀ f π j, j < n → n - j ≤ f → HeapEx (fun p => κ (π p)) n j → ChildOk (fun p => κ (π p)) n j → HeapEx (fun p => κ (sift κ n f π j p)) n (-1)
  | 0, _, _, h1, h2, _, _ => by omega
  | f + 1, π, j, hj, hf, hh, hc => by
    have ho := least_or (fun p => κ (π p)) n j
    have hlt := leastK_lt (fun p => κ (π p)) n j hj 2
    obtain ⟨l1, l2, l3⟩ := least_le (fun p => κ (π p)) n j
    by_cases hl : leastK (fun p => κ (π p)) n j 2 = j
    · rw [sift_stay _ _ _ _ _ hl]
      rw [hl] at l2 l3
      intro p hp _
      by_cases e : p = j
      · subst e; exact ⟨l2, l3⟩
      · exact hh p hp (by omega)
    · rw [sift, if_neg hl]
      generalize leastK (fun p => κ (π p)) n j 2 = l at *
      have hlj : j < l := by omega
      have sj : swap π j l j = π l := by simp [swap]
      have sl : swap π j l l = π j := by simp [swap]; intro e; exact absurd e hl
      have so : ∀ p, p ≠ j → p ≠ l → swap π j l p = π p := fun p h1 h2 => by simp [swap, h1, h2]
      refine sift_heap κ n f _ l hlt (by omega) ?_ ?_
      · intro p hp hpl
        have hpl' : p ≠ l := by omega
        by_cases e : p = j
        · subst e
          refine ⟨fun h => ?_, fun h => ?_⟩
          · show Le (κ (swap π p l p)) (κ (swap π p l (2 * p + 1)))
            rw [sj]
            by_cases e1 : 2 * p + 1 = l
            · rw [e1, sl]; exact l1
            · rw [so _ (by omega) e1]; exact l2 h
          · show Le (κ (swap π p l p)) (κ (swap π p l (2 * p + 2)))
            rw [sj]
            by_cases e1 : 2 * p + 2 = l
            · rw [e1, sl]; exact l1
            · rw [so _ (by omega) e1]; exact l3 h
        · obtain ⟨g1, g2⟩ := hh p hp (by omega)
          refine ⟨fun h => ?_, fun h => ?_⟩
          · show Le (κ (swap π j l p)) (κ (swap π j l (2 * p + 1)))
            rw [so p e hpl']
            by_cases e1 : 2 * p + 1 = j
            · rw [e1, sj]
              have hp2 : (j - 1) / 2 = p := by omega
              have := hc (by omega)
              rw [hp2] at this
              rcases ho with h' | h' | h'
              · exact absurd h' hl
              · rw [h']; exact this.1 (by omega)
              · rw [h']; exact this.2 (by omega)
            · rw [so _ e1 (by omega)]; exact g1 h
          · show Le (κ (swap π j l p)) (κ (swap π j l (2 * p + 2)))
            rw [so p e hpl']
            by_cases e1 : 2 * p + 2 = j
            · rw [e1, sj]
              have hp2 : (j - 1) / 2 = p := by omega
              have := hc (by omega)
              rw [hp2] at this
              rcases ho with h' | h' | h'
              · exact absurd h' hl
              · rw [h']; exact this.1 (by omega)
              · rw [h']; exact this.2 (by omega)
            · rw [so _ e1 (by omega)]; exact g2 h
      · intro _
        have hpj : (l - 1) / 2 = j := by omega
        obtain ⟨g1, g2⟩ := hh l hlt (by omega)
        rw [hpj]
        refine ⟨fun h => ?_, fun h => ?_⟩
        · show Le (κ (swap π j l j)) (κ (swap π j l (2 * l + 1)))
          rw [sj, so _ (by omega) (by omega)]; exact g1 h
        · show Le (κ (swap π j l j)) (κ (swap π j l (2 * l + 2)))
          rw [sj, so _ (by omega) (by omega)]; exact g2 h

end Go.Proofs.Qxb6602318a.Sd
