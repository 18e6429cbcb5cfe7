import Derived.Test.Qxb6602318aWs2
namespace Go.Proofs.Qxb6602318a.Ws
open Go.RowKit

theorem lastTo_at (xs : List Int) (c : Int) : ∀ k, 0 ≤ lastTo xs c k → xs.getD (lastTo xs c k).toNat 0 = c
  | 0, h => by simp [lastTo] at h
  | k + 1, h => by
    by_cases e : xs.getD k 0 = c
    · simp only [lastTo, if_pos e, Int.toNat_natCast]; exact e
    · simp only [lastTo, if_neg e] at h ⊢; exact lastTo_at xs c k h
theorem lastTo_none (xs : List Int) (c : Int) : ∀ k (j : Nat), lastTo xs c k < j → j < k → xs.getD j 0 ≠ c := by
  intro k j h1 h2 e
  have := lastTo_ge xs c j e k h2
  omega
theorem lastTo_take (xs : List Int) (c : Int) (m : Nat) : ∀ k, k ≤ m → lastTo (xs.take m) c k = lastTo xs c k
  | 0, _ => rfl
  | k + 1, h => by
    have e : (xs.take m).getD k 0 = xs.getD k 0 := by simp [List.getD, show k < m by omega]
    simp only [lastTo, e, lastTo_take xs c m k (by omega)]

/-- How many places from R on, below k, hold a line break. -/
def cnt (xs : List Int) (R : Nat) : Nat → Nat
  | 0 => 0
  | k + 1 => cnt xs R k + if R ≤ k ∧ xs.getD k 0 = 10 then 1 else 0
theorem cnt_zero (xs : List Int) (R : Nat) : ∀ k, (∀ j, R ≤ j → j < k → xs.getD j 0 ≠ 10) → cnt xs R k = 0
  | 0, _ => rfl
  | k + 1, h => by
    simp only [cnt]
    rw [cnt_zero xs R k fun j h1 h2 => h j h1 (by omega), if_neg (fun e => h k e.1 (by omega) e.2)]
theorem cnt_one (xs : List Int) (R m : Nat) (h1 : R ≤ m) (hm : xs.getD m 0 = 10) : ∀ k, m < k → (∀ j, R ≤ j → j < k → j ≠ m → xs.getD j 0 ≠ 10) → cnt xs R k = 1
  | 0, h, _ => absurd h (Nat.not_lt_zero _)
  | k + 1, h, hn => by
    simp only [cnt]
    rcases Nat.lt_or_eq_of_le (Nat.le_of_lt_succ h) with h' | h'
    · rw [cnt_one xs R m h1 hm k h' fun j a b c => hn j a (by omega) c, if_neg (fun e => hn k e.1 (by omega) (by omega) e.2)]
    · subst h'
      rw [cnt_zero xs R m fun j a b => hn j a (by omega) (by omega), if_pos ⟨h1, hm⟩]
theorem cnt_le (xs : List Int) (R : Nat) : ∀ k, cnt xs R k ≤ k
  | 0 => Nat.le_refl _
  | k + 1 => by have := cnt_le xs R k; simp only [cnt]; split <;> omega

theorem pfx_bw (xs p : List Int) (L W : Nat) (hL : L ≤ W) (hW : W ≤ xs.length) : pfx ((xs.take W).drop L) p = bw xs L W p := by
  have e : ((xs.take W).drop L).length = W - L := by simp; omega
  unfold pfx bw
  rw [e]
  by_cases h : p.length ≤ W - L
  · have e2 : ((xs.take W).drop L).take p.length = (xs.drop L).take p.length := by
      rw [List.drop_take, List.take_take, Nat.min_eq_left h]
    rw [e2, show decide (p.length ≤ W - L) = decide (L + p.length ≤ W) from by simp; omega]
  · rw [decide_eq_false h, decide_eq_false (by omega)]; simp
theorem pfx_bw0 (xs p : List Int) : pfx xs p = bw xs 0 xs.length p := by
  have := pfx_bw xs p 0 xs.length (Nat.zero_le _) (Nat.le_refl _)
  simpa using this
theorem bw_iff (xs : List Int) (fr t : Nat) (p : List Int) (h : bw xs fr t p = true) : fr + p.length ≤ t ∧ ∀ k, k < p.length → xs.getD (fr + k) 0 = p.getD k 0 := by
  refine ⟨?_, fun k hk => ?_⟩
  · rcases Nat.lt_or_ge t (fr + p.length) with h' | h'
    · rw [bw_short xs fr t p (by omega)] at h; cases h
    · exact h'
  · rcases Int.decEq (xs.getD (fr + k) 0) (p.getD k 0) with e | e
    · rw [bw_diff xs fr t p k hk e] at h; cases h
    · exact e

theorem hd_at (xs : List Int) (hp : pfx xs header = true) (k : Nat) (hk : k < 25) : xs.getD k 0 = header.getD k 0 := by
  rw [pfx_bw0] at hp
  have := (bw_iff xs 0 xs.length header hp).2 k hk
  simpa using this
theorem hd_len (xs : List Int) (hp : pfx xs header = true) : 25 ≤ xs.length := by
  rw [pfx_bw0] at hp
  have := (bw_iff xs 0 xs.length header hp).1
  simpa [header] using this
theorem wh_facts (xs : List Int) (hp : pfx xs header = true) : 25 ≤ wh xs ∧ wh xs ≤ xs.length ∧ lastTo xs 10 xs.length = (wh xs : Int) - 1 ∧ xs.getD (wh xs - 1) 0 = 10 := by
  have h24 := hd_at xs hp 24 (by omega)
  have hl := hd_len xs hp
  have g := lastTo_ge xs 10 24 h24 xs.length (by omega)
  have g2 := lastTo_hi xs 10 xs.length
  have g3 := lastTo_at xs 10 xs.length (by omega)
  unfold wh
  refine ⟨by omega, by omega, by omega, ?_⟩
  rw [show (lastTo xs 10 xs.length + 1).toNat - 1 = (lastTo xs 10 xs.length).toNat from by omega]
  exact g3
theorem la_facts (xs : List Int) (hp : pfx xs header = true) : 18 ≤ la xs ∧ la xs < wh xs ∧ lastTo xs 10 (wh xs - 1) = (la xs : Int) - 1 ∧ xs.getD (la xs - 1) 0 = 10 := by
  obtain ⟨w1, w2, w3, w4⟩ := wh_facts xs hp
  have h17 := hd_at xs hp 17 (by omega)
  have g := lastTo_ge xs 10 17 h17 (wh xs - 1) (by omega)
  have g2 := lastTo_hi xs 10 (wh xs - 1)
  have g3 := lastTo_at xs 10 (wh xs - 1) (by omega)
  have e : la xs = (lastTo xs 10 (wh xs - 1) + 1).toNat := by unfold la; rw [lastTo_take xs 10 (wh xs - 1) _ (Nat.le_refl _)]
  rw [e]
  refine ⟨by omega, by omega, by omega, ?_⟩
  rw [show (lastTo xs 10 (wh xs - 1) + 1).toNat - 1 = (lastTo xs 10 (wh xs - 1)).toNat from by omega]
  exact g3
theorem hd_no (xs : List Int) (hp : pfx xs header = true) : ∀ j, 18 ≤ j → j < 24 → xs.getD j 0 ≠ 10 := by
  intro j h1 h2
  rw [hd_at xs hp j (by omega)]
  have : j = 18 ∨ j = 19 ∨ j = 20 ∨ j = 21 ∨ j = 22 ∨ j = 23 := by omega
  rcases this with rfl | rfl | rfl | rfl | rfl | rfl <;> decide
theorem la_out (xs : List Int) (hp : pfx xs header = true) (ho : pfx ((xs.take (wh xs)).drop (la xs)) outcome = true) : 25 ≤ la xs ∧ bw xs (la xs) (wh xs) outcome = true := by
  obtain ⟨w1, w2, w3, w4⟩ := wh_facts xs hp
  obtain ⟨l1, l2, l3, l4⟩ := la_facts xs hp
  rw [pfx_bw xs outcome (la xs) (wh xs) (by omega) w2] at ho
  refine ⟨?_, ho⟩
  rcases Nat.lt_or_ge (la xs) 25 with h | h
  · exfalso
    have e18 : la xs = 18 := by
      rcases Nat.lt_or_ge 18 (la xs) with h' | h'
      · exfalso; exact hd_no xs hp (la xs - 1) (by omega) (by omega) l4
      · omega
    have := (bw_iff xs _ _ _ ho).2 0 (by decide)
    rw [e18, hd_at xs hp (18 + 0) (by omega)] at this
    revert this; decide
  · exact h

/-- What wholeSteps answers. -/
def stepsOf (xs : List Int) : Int := if pfx xs header = true then (if pfx ((xs.take (wh xs)).drop (la xs)) outcome = true then (la xs : Int) else (wh xs : Int)) else xs.length

/-- THE PLAIN LAW of the cut. -/
theorem cut_law (xs : List Int) (hp : pfx xs header = true) : ∃ R : Nat, stepsOf xs = R ∧ 25 ≤ R ∧ R ≤ xs.length ∧ xs.getD (R - 1) 0 = 10 ∧
    (cnt xs R xs.length = 0 ∨ (cnt xs R xs.length = 1 ∧ ∃ lb : Nat, lastTo xs 10 xs.length = lb ∧ lb < xs.length ∧ bw xs R (lb + 1) outcome = true)) := by
  obtain ⟨w1, w2, w3, w4⟩ := wh_facts xs hp
  obtain ⟨l1, l2, l3, l4⟩ := la_facts xs hp
  by_cases ho : pfx ((xs.take (wh xs)).drop (la xs)) outcome = true
  · obtain ⟨o1, o2⟩ := la_out xs hp ho
    refine ⟨la xs, by simp only [stepsOf, if_pos hp, if_pos ho], o1, by omega, l4, .inr ⟨?_, wh xs - 1, by omega, by omega, ?_⟩⟩
    · refine cnt_one xs (la xs) (wh xs - 1) (by omega) w4 xs.length (by omega) fun j h1 h2 h3 => ?_
      rcases Nat.lt_or_ge j (wh xs - 1) with h | h
      · exact lastTo_none xs 10 (wh xs - 1) j (by omega) h
      · exact lastTo_none xs 10 xs.length j (by omega) h2
    · rw [show wh xs - 1 + 1 = wh xs from by omega]; exact o2
  · refine ⟨wh xs, by simp only [stepsOf, if_pos hp, if_neg ho], w1, w2, w4, .inl ?_⟩
    exact cnt_zero xs (wh xs) xs.length fun j h1 h2 => lastTo_none xs 10 xs.length j (by omega) h2

set_option maxHeartbeats 400000 in
/-- THE CONTRACT of ZZwholeSteps. -/
theorem zz_any (b off n c : Nat) (xs : List Int) (w : World) (hx : xs.length = n) (hn : n ≤ 1048576) (hnc : n ≤ c)
    (hc : ∀ i, i < n → w.cell? ⟨b, off + i, none⟩ = some (.int .u8 (xs.getD i 0))) (bx : ∀ x ∈ xs, 0 ≤ x ∧ x ≤ 255) :
    Calls Try.prog 12 #[.slice (some ⟨b, off, none⟩) n c] w fun e w' => e = .returned (.int .i64 (stepsOf xs)) ∧ Below w.heap.size w w' := by
  have C : Calls Try.prog 40 #[.slice (some ⟨b, off, none⟩) n c] w fun e w' => e = .returned (.int .i64 (stepsOf xs)) ∧ Below w.heap.size w w' := by
    by_cases hp : pfx xs header = true
    · rw [stepsOf, if_pos hp]
      exact wholeSteps_yes b off n c xs w hx hn hnc hc bx hp (by have := (wh_facts xs hp).1; omega)
    · rw [stepsOf, if_neg hp, hx]
      exact wholeSteps_no b off n c xs w hx hnc hc bx (by simpa using hp)
  have H := hide C
  clear C hc
  generalize stepsOf xs = r at *
  go_enter Try.func12, Try.ntmps12
  go_wp2_with fail
  refine H.out.mono ?_
  rintro e w' ⟨rfl, hb⟩
  go_wp2
  go_ret
  exact ⟨rfl, hb⟩

end Go.Proofs.Qxb6602318a.Ws
