import Derived.Test.Qxb6602318aPi2
namespace Go.Proofs.Qxb6602318a.Pi
open Go.RowKit
open Go.Proofs.Qxb6602318a.Sd (hide vi ret_bool wrap_in Fits rowIs_below)

/-- A run, as it is read. -/
def RunVal (w : World) (v : Value) (ss : List ByteArray) : Prop :=
  ∃ a c, v = .slice a ss.length c ∧ (0 < ss.length → ∃ b o, a = some ⟨b, o, none⟩ ∧ ∀ j, j < ss.length → w.cell? ⟨b, o + j, none⟩ = some (.string (ss.getD j ByteArray.empty)))
theorem RunIn.val {w : World} {lo : Nat} {v : Value} {ss : List ByteArray} (h : RunIn w lo v ss) : RunVal w v ss := by
  obtain ⟨a, rfl, h⟩ := h
  refine ⟨a, _, rfl, fun h0 => ?_⟩
  obtain ⟨b, _, h2, h3⟩ := h h0
  exact ⟨b, 0, h2, fun j hj => by rw [Nat.zero_add]; exact h3.cell hj⟩
theorem cell_lt {w : World} {b o : Nat} {v : Value} (h : w.cell? ⟨b, o, none⟩ = some v) : b < w.heap.size := by
  rcases Nat.lt_or_ge b w.heap.size with h' | h'
  · exact h'
  · simp [World.cell?, Array.getElem?_eq_none h'] at h
theorem RunVal.below {w w' : World} {v : Value} {ss : List ByteArray} (h : RunVal w v ss) {B : Nat} (hb : Below B w w') (hB : w.heap.size ≤ B) : RunVal w' v ss := by
  obtain ⟨a, c, rfl, h⟩ := h
  refine ⟨a, c, rfl, fun h0 => ?_⟩
  obtain ⟨b, o, h2, h3⟩ := h h0
  exact ⟨b, o, h2, fun j hj => (hb.cell (p := ⟨b, o + j, none⟩) (by have := cell_lt (h3 j hj); show b < B; omega)).trans (h3 j hj)⟩

/-- Runs, as they are read. -/
def RunsAt (w : World) (g : Nat) (rs : List (List ByteArray)) : Prop := ∀ k, k < rs.length → ∃ v, w.cell? ⟨g, k, none⟩ = some v ∧ RunVal w v (rs.getD k [])
theorem RunsAt.below {w w' : World} {g : Nat} {rs : List (List ByteArray)} (h : RunsAt w g rs) {B : Nat} (hb : Below B w w') (hB : w.heap.size ≤ B) : RunsAt w' g rs := fun k hk => by
  obtain ⟨v, h1, h2⟩ := h k hk
  exact ⟨v, (hb.cell (p := ⟨g, k, none⟩) (by have := cell_lt h1; show g < B; omega)).trans h1, h2.below hb hB⟩
theorem CopyTo.at {w wr : World} {n : Nat} {rs : List (List ByteArray)} {V : Nat → Value} (h : CopyTo w wr n n rs V) (hrs : rs.length = n) : RunsAt wr w.heap.size rs := fun k hk =>
  ⟨V k, h.outer.cell (by omega), (h.rows k (by omega)).val⟩

set_option maxHeartbeats 1000000 in
theorem offset34 (g c : Nat) (rs : List (List ByteArray)) (w : World) (n i : Nat) (hrs : rs.length = n) (hn : n ≤ 65536) (hi : i ≤ n) (hsum : ∀ k, k ≤ n → sumTo rs k ≤ 65536) (h : RunsAt w g rs) :
    Calls Try.prog 34 #[.slice (some ⟨g, 0, none⟩) n c, .int .i64 i] w fun e w' => e = .returned (.int .i64 (sumTo rs i)) ∧ w = w' := by
  have H := hide h
  have HSm := hide hsum
  clear h hsum
  go_enter Try.func34, Try.ntmps34
  go_wp2
  go_loop [5, 6] (fun t k => ∃ kk : Nat, kk ≤ i ∧ t = .int .i64 (sumTo rs kk) ∧ k = .int .i64 kk) (fun _ k => i - (intOf k).toNat)
  case atStart => exact ⟨0, Nat.zero_le _, rfl, rfl⟩
  case round =>
    obtain ⟨k, hk, rfl, rfl⟩ := hrel
    have hb1 := HSm.out k (by omega)
    by_cases hki : k < i
    · obtain ⟨v, hc, a, c', rfl, _⟩ := H.out k (by omega)
      have hb2 := HSm.out (k + 1) (by omega)
      have hs := sumTo_succ rs k (by omega)
      rw [hs] at hb2
      have HS := hide hs
      clear hs
      have d1 : (k : Int) < (i : Int) := by omega
      have d2 : (k : Int) < (n : Int) := by omega
      generalize (rs.getD k []).length = l at *
      go_wp2
      go_round
      case rel => exact ⟨k + 1, by omega, vi (by rw [HS.out]; omega), vi (by omega)⟩
      case measure => simp [intOf]; omega
    · obtain rfl : k = i := by omega
      go_wp2
      go_ret
      exact ⟨rfl, rfl⟩

theorem flat_length : ∀ rs : List (List ByteArray), rs.flatten.length = sumTo rs rs.length := fun rs => by
  unfold sumTo
  rw [List.take_length, List.length_flatten]
theorem flat_getD : ∀ (rs : List (List ByteArray)) (k j : Nat), k < rs.length → j < (rs.getD k []).length → rs.flatten.getD (sumTo rs k + j) ByteArray.empty = (rs.getD k []).getD j ByteArray.empty
  | [], k, _, h, _ => by simp at h
  | r :: rs, 0, j, _, hj => by
    have hj' : j < r.length := by simpa using hj
    simp [sumTo, List.getD, List.getElem?_append_left hj']
  | r :: rs, k + 1, j, h, hj => by
    have e : sumTo (r :: rs) (k + 1) = r.length + sumTo rs k := by simp [sumTo]
    rw [e, List.flatten_cons, List.getD, Nat.add_assoc, List.getElem?_append_right (by omega), show r.length + (sumTo rs k + j) - r.length = sumTo rs k + j by omega]
    exact flat_getD rs k j (by simpa using h) (by simpa using hj)

set_option maxRecDepth 100000 in
set_option maxHeartbeats 2000000 in
theorem flatten33 (g c : Nat) (rs : List (List ByteArray)) (w : World) (n T : Nat) (hrs : rs.length = n) (hn : n ≤ 65537) (hT : T = rs.flatten.length) (hsum : ∀ k, k ≤ n → sumTo rs k ≤ T) (hT2 : T ≤ 65537) (h : RunsAt w g rs) :
    Calls Try.prog 33 #[.slice (some ⟨g, 0, none⟩) n c] w fun e w' => e = .returned (.slice (some ⟨w.heap.size, 0, none⟩) T T) ∧ Below w.heap.size w w' ∧ w'.rowIs w.heap.size 9 T (strF rs.flatten T) := by
  have mk1 := run_make_row' (P := Try.prog) 27 9 (.string ByteArray.empty) 16 Try.underlying27 Sd.Try.info9 rfl .i64 .i64 T (by omega) (by omega)
  have hTs : T = sumTo rs n := by rw [hT, flat_length, hrs]
  have HT := hide hTs
  have H := hide h
  have HSm := hide hsum
  clear h hsum hT hTs
  go_enter Try.func33, Try.ntmps33
  go_wp2
  go_loop [3, 4] (fun t k => ∃ kk : Nat, kk ≤ n ∧ t = .int .i64 (sumTo rs kk) ∧ k = .int .i64 kk) (fun _ k => n - (intOf k).toNat)
  case atStart => exact ⟨0, Nat.zero_le _, rfl, rfl⟩
  case round =>
    obtain ⟨k, hk, rfl, rfl⟩ := hrel
    have hb1 := HSm.out k (by omega)
    by_cases hkn : k < n
    · obtain ⟨v, hc, a, c', rfl, _⟩ := H.out k (by omega)
      have hb2 := HSm.out (k + 1) (by omega)
      have hs := sumTo_succ rs k (by omega)
      rw [hs] at hb2
      have HS := hide hs
      clear hs
      have d2 : (k : Int) < (n : Int) := by omega
      generalize (rs.getD k []).length = l at *
      go_wp2
      go_round
      case rel => exact ⟨k + 1, by omega, vi (by rw [HS.out]; omega), vi (by omega)⟩
      case measure => simp [intOf]; omega
    · obtain rfl : k = n := by omega
      rw [← HT.out]
      clear hb1
      go_wp2
      go_loopw [6, 7, 8, 9] (fun p t _ _ wr => ∃ q : Nat, q ≤ k ∧ p = .int .i64 (sumTo rs q) ∧ t = .int .i64 q ∧ Below w.heap.size w wr ∧ wr.rowIs w.heap.size 9 T (strF rs.flatten (sumTo rs q))) (fun _ t _ _ _ => k - (intOf t).toNat)
      case atStart =>
        refine ⟨0, Nat.zero_le _, rfl, rfl, (Below.refl _ _).alloc (Nat.le_refl _) _, (World.rowIs_made _ _ _ _).congr fun q _ => ?_⟩
        simp [strF, sumTo]
      case round =>
        obtain ⟨q, hq, rfl, rfl, hB, hR⟩ := hrel
        obtain ⟨wo, rfl⟩ : ∃ wo, wo = wr := ⟨wr, rfl⟩
        by_cases hqk : q < k
        · obtain ⟨v, hc0, a, c', rfl, hrow⟩ := H.out q (by omega)
          have hc : wo.cell? ⟨g, q, none⟩ = _ := (hB.cell (p := ⟨g, q, none⟩) (cell_lt hc0)).trans hc0
          clear hc0
          have hb2 := HSm.out (q + 1) (by omega)
          have hs := sumTo_succ rs q (by omega)
          have hfl := flat_getD rs q
          obtain ⟨ss, hss⟩ : ∃ ss, ss = rs.getD q [] := ⟨_, rfl⟩
          rw [← hss] at hc hrow hs hfl
          rw [hs] at hb2
          have HS := hide hs
          have HF := hide hfl
          have Hrow := hide hrow
          clear hs hss hfl hrow
          obtain ⟨l, hl⟩ : ∃ l, l = ss.length := ⟨_, rfl⟩
          rw [← hl] at hc hb2
          have Hl := hide hl
          clear hl
          obtain ⟨s0, hs0⟩ : ∃ s0, s0 = sumTo rs q := ⟨_, rfl⟩
          rw [← hs0] at hR hb2 ⊢
          have Hs0 := hide hs0
          clear hs0
          go_wp2
          go_loopw [6, 9] (fun p t wr => ∃ j : Nat, j ≤ l ∧ p = .int .i64 (s0 + j : Nat) ∧ t = .int .i64 j ∧ Below w.heap.size w wr ∧ wr.rowIs w.heap.size 9 T (strF rs.flatten (s0 + j))) (fun _ t _ => l - (intOf t).toNat)
          case atStart => exact ⟨0, Nat.zero_le _, rfl, rfl, hB, hR⟩
          case round =>
            obtain ⟨j, hj, rfl, rfl, hBi, hRi⟩ := hrel
            clear hc
            by_cases hjl : j < l
            · obtain ⟨b', o', hA', hrc⟩ := Hrow.out (by rw [← Hl.out]; omega)
              obtain rfl := hA'
              have hsrc := hrc j (by rw [← Hl.out]; exact hjl)
              have s2 : wr.cell? ⟨b', o' + j, none⟩ = _ := (hBi.cell (p := ⟨b', o' + j, none⟩) (cell_lt hsrc)).trans hsrc
              have hfj := HF.out j (by omega) (by rw [← Hl.out]; exact hjl)
              rw [← Hs0.out] at hfj
              have s3 := hRi.cell (show s0 + j < T by omega)
              have s4 := hRi.frozen
              obtain ⟨sj, hsj⟩ : ∃ s, s = ss.getD j ByteArray.empty := ⟨_, rfl⟩
              rw [← hsj] at s2 hfj
              generalize strF rs.flatten (s0 + j) (s0 + j) = v3 at s3
              have Hfj := hide hfj
              have dT : ((s0 + j : Nat) : Int) < (T : Int) := by omega
              clear hsj hsrc hrc hfj
              obtain ⟨p, hp⟩ : ∃ p, p = s0 + j := ⟨_, rfl⟩
              rw [← hp] at s3 dT hRi ⊢
              have Hp := hide hp
              have hp1 : p ≤ T := by omega
              clear hp
              go_wp2
              go_roundw
              case measure => simp [intOf]; omega
              case rel =>
                refine ⟨j + 1, by omega, vi (by have := Hp.out; omega), vi (by omega), hBi.setCell (Nat.le_refl _) _, (hRi.set p _).congr fun r hr => ?_⟩
                have e0 : s0 + (j + 1) = p + 1 := by have := Hp.out; omega
                rw [e0]
                unfold strF
                by_cases e : r = p
                · subst e
                  have := Hfj.out
                  rw [← Hp.out] at this
                  rw [if_pos rfl, if_pos (Nat.lt_succ_self _), this]
                · simp only [e, if_false]
                  by_cases e2 : r < p
                  · rw [if_pos e2, if_pos (by omega)]
                  · rw [if_neg e2, if_neg (by omega)]
            · obtain rfl : j = l := by omega
              go_wp2
              go_roundw
              case rel => exact ⟨q + 1, by omega, vi (by rw [HS.out, ← Hs0.out, ← Hl.out]), vi (by omega), hBi, by rw [HS.out, ← Hs0.out, ← Hl.out]; exact hRi⟩
              case measure => simp [intOf]; omega
        · obtain rfl : q = k := by omega
          go_wp2
          go_ret
          exact ⟨rfl, hB, by rw [← HT.out] at hR; exact hR⟩
end Go.Proofs.Qxb6602318a.Pi
