import Derived.Test.Qxb6602318aPi8
namespace Go.Proofs.Qxb6602318a.Pi
open Go.RowKit
open Go.Proofs.Qxb6602318a.Sd (hide vi ret_bool wrap_in Fits rowIs_below)

theorem Set0.of_copy {w w1 ws : World} {n Sb : Nat} {rs : List (List ByteArray)} {V : Nat → Value} (h : CopyTo w w1 n n rs V) (hb : Below w1.heap.size w1 ws) (hS : ws.cell? ⟨Sb, 0, none⟩ = some (.slice (some ⟨w.heap.size, 0, none⟩) n n)) (hf : ws.frozen? ⟨Sb, 0, none⟩ = false) (hSb : w1.heap.size ≤ Sb) : Set0 ws Sb w.heap.size n rs V := by
  have hG := h.outer.lt
  refine ⟨hS, hf, by omega, rowIs_below h.outer hb hG, fun k hk => ?_⟩
  obtain ⟨a, hV, hrow⟩ := h.rows k hk
  refine ⟨a, hV, fun h0 => ?_⟩
  obtain ⟨b, h1, h2, h3⟩ := hrow h0
  have := h3.lt
  exact ⟨b, h1, by omega, h2, rowIs_below h3 hb h3.lt⟩

theorem len_le_sum (rs : List (List ByteArray)) (k : Nat) (hk : k < rs.length) : (rs.getD k []).length ≤ rs.flatten.length := by
  have h1 := sumTo_mono rs (k + 1) (by omega)
  rw [sumTo_succ rs k hk] at h1
  omega

theorem Try.info3 : (Try.prog.info? 3).map (fun i => (i.zero, i.size, i.bytes)) = some (some (.int .i64 0), 1, 8) := by kernel_rfl
theorem wl_le (rs : List (List ByteArray)) (i g k : Nat) : (wl rs i g k).length ≤ k + 1 := by
  rw [wl_length]
  by_cases h : k ≤ i
  · rw [if_pos h]; omega
  · rw [if_neg h]
    by_cases h2 : 256 < g
    · rw [if_pos h2]; omega
    · rw [if_neg h2]; omega
/-- A list of numbers, then zeros. -/
def lenF (L : List Nat) (q : Nat) : Value := .int .i64 (L.getD q 0 : Nat)
theorem lenF_add {w : World} {b n : Nat} {L : List Nat} (h : w.rowIs b 3 n (lenF L)) (x : Nat) : (w.setCell ⟨b, L.length, none⟩ (.int .i64 (x : Nat))).rowIs b 3 n (lenF (L ++ [x])) := by
  refine (h.set L.length (.int .i64 (x : Nat))).congr fun q hq => ?_
  unfold lenF
  by_cases e : q = L.length
  · subst e; simp
  · rw [if_neg e]
    unfold List.getD
    by_cases e2 : q < L.length
    · rw [List.getElem?_append_left e2]
    · rw [List.getElem?_eq_none (by omega), List.getElem?_eq_none (by simp; omega)]

set_option maxRecDepth 100000 in
set_option maxHeartbeats 4000000 in
theorem inserts_core (b off c : Nat) (rs : List (List ByteArray)) (A : Nat → Option Addr) (C : Nat → Nat) (i at' : Int) (id : ByteArray) (w : World) (n : Nat) (hrs : rs.length = n) (hn0 : 0 < n) (h : ArgRuns w b off rs A C) (hid : id.size ≤ maxLen) (hb : b < w.heap.size) :
    Calls Try.prog 8 #[.slice (some ⟨b, off, none⟩) n c, .int .i64 i, .int .i64 at', .string id] w fun e w' => e = .returned (.bool true) ∧ Below w.heap.size w w' := by
  have H26 := hide (bytes26 b off c rs A C i at' id w n hrs h hid)
  have H27 := hide (fit27 b off c rs A C id w n hrs h hid)
  have HA := hide h
  have hnm := h.n
  rw [hrs] at hnm
  unfold maxLen at hnm
  clear h hid
  go_enter Try.func8, Try.ntmps8
  go_wp2_with fail
  refine H26.out.mono ?_
  rintro e w' ⟨⟨r, rfl, _⟩, rfl⟩
  cases r
  · go_wp2
    go_ret
    exact ⟨rfl, Below.refl _ _⟩
  go_wp2_with fail
  refine H27.out.mono ?_
  rintro e w' ⟨⟨r, rfl, hr⟩, rfl⟩
  cases r
  · clear hr
    go_wp2
    go_ret
    exact ⟨rfl, Below.refl _ _⟩
  obtain ⟨hn, hsum⟩ := hr rfl
  clear hr H26 H27
  have H28 := hide (place28 b off c rs A C i at' w n hrs hn0 hn HA.out)
  go_wp2_with fail
  refine H28.out.mono ?_
  rintro e w' ⟨⟨r, rfl, hr⟩, rfl⟩
  cases r
  · clear hr
    go_wp2
    go_ret
    exact ⟨rfl, Below.refl _ _⟩
  obtain ⟨hi0, hi1, ha0, ha1⟩ := hr rfl
  clear hr H28
  obtain ⟨j, rfl⟩ := Int.eq_ofNat_of_zero_le hi0
  obtain ⟨p, rfl⟩ := Int.eq_ofNat_of_zero_le ha0
  rw [Int.toNat_natCast] at ha1
  have hj : j < n := by omega
  have hp : p ≤ (rs.getD j []).length := by omega
  have hT : rs.flatten.length ≤ 65536 := by rw [flat_length, hrs]; omega
  have hwl := want_length rs j p id (by omega) hp
  clear hi0 hi1 ha0 ha1 hsum
  have H29 := hide (copy29 b off c rs A C w n hrs hn (fun k hk => Nat.le_trans (len_le_sum rs k (by omega)) hT) HA.out hb)
  go_wp2_with fail
  refine H29.out.mono ?_
  rintro e w1 ⟨rfl, V, hCp⟩
  clear H29 HA
  have hb1 := hCp.bel
  have hG1 := hCp.outer.lt
  have hn0' : ((n : Int) == 0) = false := by rw [beq_eq_false_iff_ne]; omega
  obtain ⟨T, hTT⟩ : ∃ T, T = rs.flatten.length := ⟨_, rfl⟩
  have H33 := hide (flatten33 w.heap.size n rs w1 n T hrs (by omega) hTT (fun k hk => by rw [hTT]; exact sumTo_mono rs k (by omega)) (by omega) (hCp.at hrs))
  have HT := hide hTT
  have hT2 : T ≤ 65536 := by rw [hTT]; exact hT
  have Hwl := hide hwl
  clear hTT hwl
  go_wp2_with fail
  refine H33.out.mono ?_
  rintro e w2 ⟨rfl, hb2, hrow2⟩
  clear H33
  have H34 := hide (offset34 w.heap.size n rs w2 n j hrs hn (by omega) (fun k hk => Nat.le_trans (sumTo_mono rs k (by omega)) hT) ((hCp.at hrs).below hb2 (Nat.le_refl _)))
  go_wp2_with fail
  refine H34.out.mono ?_
  rintro e w' ⟨rfl, rfl⟩
  clear H34
  obtain ⟨q, hq⟩ : ∃ q, q = sumTo rs j + p := ⟨_, rfl⟩
  obtain ⟨s0, hs0⟩ : ∃ s0, s0 = sumTo rs j := ⟨_, rfl⟩
  rw [← hs0]
  rw [← hs0] at hq
  obtain ⟨W, hW⟩ : ∃ W, W = want rs j p id := ⟨_, rfl⟩
  have hgD := fun k => want_getD rs j p id q k (by rw [hq, hs0]) (by rw [hq, hs0]; exact Hwl.out.2)
  rw [← hW] at hgD
  have hqT : q ≤ T := by rw [HT.out, hq, hs0]; exact Hwl.out.2
  have hqi : (s0 : Int) + (p : Int) = (q : Int) := by omega
  have hWl : Hid (W.length = T + 1) := by show _ = _; rw [hW, Hwl.out.1, HT.out]
  have HgD := hide hgD
  have HW := hide hW
  have Hs0 := hide hs0
  clear hgD hW hs0 hq
  have mk1 := run_make_row' (P := Try.prog) 27 9 (.string ByteArray.empty) 16 Try.underlying27 Sd.Try.info9 rfl .i64 .i64 (T + 1) (by omega) (by omega)
  rw [show ((T + 1 : Nat) : Int) = (T : Int) + 1 from by omega] at mk1
  have hb2s := hb2.size
  have hF2 := hide hrow2
  have hgl2 := hrow2.lt
  clear hrow2
  go_wp2
  go_loopw [15] (fun t wr => ∃ k : Nat, k ≤ T + 1 ∧ t = .int .i64 k ∧ Below w2.heap.size w2 wr ∧ wr.rowIs w2.heap.size 9 (T + 1) (strF W k)) (fun t _ => T + 1 - (intOf t).toNat)
  case atStart =>
    refine ⟨0, Nat.zero_le _, rfl, (Below.refl _ _).alloc (Nat.le_refl _) _, (World.rowIs_made _ _ _ _).congr fun r _ => ?_⟩
    simp [strF]
  case round =>
    obtain ⟨k, hk, rfl, hBr, hRr⟩ := hrel
    clear mk1
    by_cases hkT : k < T + 1
    · have hgk := HgD.out k
      have hstep : ∀ x : ByteArray, W.getD k ByteArray.empty = x → (wr.setCell ⟨w2.heap.size, k, none⟩ (.string x)).rowIs w2.heap.size 9 (T + 1) (strF W (k + 1)) := fun x hx => by
        refine (hRr.set k (.string x)).congr fun r hr => ?_
        unfold strF
        by_cases e : r = k
        · subst e; rw [if_pos rfl, if_pos (Nat.lt_succ_self _), hx]
        · rw [if_neg e]
          by_cases e2 : r < k
          · rw [if_pos e2, if_pos (by omega)]
          · rw [if_neg e2, if_neg (by omega)]
      have HST := hide hstep
      have t3 := hRr.cell hkT
      have t4 := hRr.frozen
      generalize strF W k k = v3 at t3
      have ik : (k : Int) < (T : Int) + 1 := by omega
      have hF := rowIs_below hF2.out hBr hgl2
      clear hstep
      rcases Nat.lt_trichotomy k q with hkq | hkq | hkq
      · rw [if_pos hkq] at hgk
        have t2 := hF.cell (show k < T by omega)
        rw [strF, if_pos (by omega)] at t2
        have ik1 : (k : Int) < (q : Int) := by omega
        have ik2 : (k : Int) < (T : Int) := by omega
        generalize rs.flatten.getD k ByteArray.empty = x at *
        have Hgk := hide hgk
        clear hgk hF
        go_wp2
        go_roundw
        case rel => exact ⟨k + 1, by omega, vi (by omega), hBr.setCell (Nat.le_refl _) _, HST.out x Hgk.out⟩
        case measure => simp [intOf]; omega
      · rw [if_neg (by omega), if_pos hkq] at hgk
        have ik1 : ¬ (k : Int) < (q : Int) := by omega
        have ik3 : ((k : Int) == (q : Int)) = true := by rw [beq_iff_eq]; omega
        have Hgk := hide hgk
        clear hgk hF hkq
        go_wp2
        go_roundw
        case rel => exact ⟨k + 1, by omega, vi (by omega), hBr.setCell (Nat.le_refl _) _, HST.out id Hgk.out⟩
        case measure => simp [intOf]; omega
      · rw [if_neg (by omega), if_neg (by omega)] at hgk
        have t2 := hF.cell (show k - 1 < T by omega)
        rw [strF, if_pos (by omega)] at t2
        have ik1 : ¬ (k : Int) < (q : Int) := by omega
        have ik3 : ((k : Int) == (q : Int)) = false := by rw [beq_eq_false_iff_ne]; omega
        have ik4 : ((k : Int) - 1).toNat = k - 1 := by omega
        have ik5 : (k : Int) - 1 < (T : Int) := by omega
        have ik6 : (0 : Int) ≤ (k : Int) - 1 := by omega
        generalize rs.flatten.getD (k - 1) ByteArray.empty = x at *
        have Hgk := hide hgk
        clear hgk hF
        go_wp2
        go_roundw
        case rel => exact ⟨k + 1, by omega, vi (by omega), hBr.setCell (Nat.le_refl _) _, HST.out x Hgk.out⟩
        case measure => simp [intOf]; omega
    · obtain rfl : k = T + 1 := by omega
      obtain ⟨w3, rfl⟩ : ∃ w3, w3 = wr := ⟨wr, rfl⟩
      have hRows : Hid (∀ k, k < n → ∃ a, w3.cell? ⟨w.heap.size, k, none⟩ = some (.slice a (rs.getD k []).length (rs.getD k []).length)) := fun k hk => by
        obtain ⟨a, hV, _⟩ := hCp.rows k hk
        refine ⟨a, ?_⟩
        rw [← hV]
        exact (rowIs_below (rowIs_below hCp.outer hb2 hG1) hBr (by omega)).cell hk
      have hLen : Hid (∀ k, k < n → (rs.getD k []).length ≤ T) := fun k hk => by rw [HT.out]; exact len_le_sum rs k (by omega)
      have hlj := hLen.out j hj
      obtain ⟨aj, hcj⟩ := hRows.out j hj
      obtain ⟨l, hl⟩ : ∃ l, l = (rs.getD j []).length := ⟨_, rfl⟩
      rw [← hl] at hcj hlj hp
      obtain ⟨sp, hsp⟩ : ∃ sp : Bool, decide ((256 : Int) < (l : Int) + 1) = sp := ⟨_, rfl⟩
      have Hl := hide hl
      clear hl
      have mk3 := run_make_row' (P := Try.prog) 33 3 (.int .i64 0) 8 Try.underlying33 Try.info3 rfl .i64 .i64 (n + 1) (by omega) (by omega)
      rw [show ((n + 1 : Nat) : Int) = (n : Int) + 1 from by omega] at mk3
      have ij : (j : Int) < (n : Int) := by omega
      have hb3s := hBr.size
      go_wp2
      go_loopw [19, 20] (fun m t wr => ∃ k : Nat, k ≤ n ∧ m = .int .i64 ((wl rs j (l + 1) k).length : Nat) ∧ t = .int .i64 k ∧ Below w3.heap.size w3 wr ∧ wr.rowIs w3.heap.size 3 (n + 1) (lenF (wl rs j (l + 1) k))) (fun _ t _ => n - (intOf t).toNat)
      case atStart =>
        refine ⟨0, Nat.zero_le _, rfl, rfl, (Below.refl _ _).alloc (Nat.le_refl _) _, (World.rowIs_made _ _ _ _).congr fun r _ => ?_⟩
        simp [lenF, wl]
      case round =>
        obtain ⟨k, hkn, rfl, rfl, hB4, hR4⟩ := hrel
        clear mk3 hcj
        have hwll := wl_length rs j (l + 1) k
        have hm := wl_le rs j (l + 1) k
        by_cases hk4 : k < n
        · obtain ⟨ak, hck⟩ := hRows.out k hk4
          have hck' : wr.cell? ⟨w.heap.size, k, none⟩ = _ := (hB4.cell (p := ⟨w.heap.size, k, none⟩) (by show w.heap.size < w3.heap.size; omega)).trans hck
          have hlk := hLen.out k hk4
          have hwk : wl rs j (l + 1) (k + 1) = wl rs j (l + 1) k ++ if k ≠ j then [(rs.getD k []).length] else if 256 < l + 1 then [(l + 1) / 2, l + 1 - (l + 1) / 2] else [l + 1] := rfl
          have hm2 : k ≤ j → (wl rs j (l + 1) k).length = k := fun h => by rw [hwll, if_pos h]
          obtain ⟨X, hX⟩ : ∃ X, X = wl rs j (l + 1) k := ⟨_, rfl⟩
          rw [← hX] at hm hm2 hwk hR4 ⊢
          obtain ⟨M, hM⟩ : ∃ M, M = X.length := ⟨_, rfl⟩
          rw [← hM] at hm hm2 ⊢
          have HM := hide hM
          clear hwll hck hX hM
          have f4 := hR4.frozen
          by_cases hkj : k = j
          · have hkj' : ((k : Int) != (j : Int)) = false := by rw [hkj]; simp
            have hMk := hm2 (by omega)
            have c1 := hR4.cell (show M < n + 1 by omega)
            have iM : (M : Int) < (n : Int) + 1 := by omega
            rw [if_neg (by omega)] at hwk
            generalize lenF X M = v1 at c1
            cases sp with
            | true =>
              have h256 : 256 < l + 1 := by have := of_decide_eq_true hsp; omega
              rw [if_pos h256] at hwk
              have c2 := hR4.cell (show M + 1 < n + 1 by omega)
              generalize lenF X (M + 1) = v2 at c2
              obtain ⟨hf, hhf⟩ : ∃ hf, hf = (l + 1) / 2 := ⟨_, rfl⟩
              rw [← hhf] at hwk
              have e1 : ((l : Int) + 1) / 2 = (hf : Int) := by omega
              have e2 : (l : Int) + 1 - (hf : Int) = ((l + 1 - hf : Nat) : Int) := by omega
              have hst : ((wr.setCell ⟨w3.heap.size, M, none⟩ (.int .i64 (hf : Nat))).setCell ⟨w3.heap.size, M + 1, none⟩ (.int .i64 ((l + 1 - hf : Nat) : Nat))).rowIs w3.heap.size 3 (n + 1) (lenF (wl rs j (l + 1) (k + 1))) := by
                rw [hwk, HM.out]
                have h1 := lenF_add hR4 hf
                have h2 := lenF_add h1 (l + 1 - hf)
                rw [List.length_append] at h2
                simpa using h2
              have hlen1 : (wl rs j (l + 1) (k + 1)).length = M + 2 := by rw [hwk, List.length_append, ← HM.out]; rfl
              have HST := hide hst
              have HL1 := hide hlen1
              have iM2 : (M : Int) + 1 < (n : Int) + 1 := by omega
              have nM : ¬ M = M + 1 := by omega
              clear hst hlen1 hwk hhf hkj hMk hm2 hck'
              go_wp2
              go_roundw
              case rel => exact ⟨k + 1, by omega, vi (by rw [HL1.out]; omega), vi (by omega), (hB4.setCell (Nat.le_refl _) _).setCell (Nat.le_refl _) _, HST.out⟩
              case measure => simp [intOf]; omega
            | false =>
              have h256 : ¬ 256 < l + 1 := by have := of_decide_eq_false hsp; omega
              rw [if_neg h256] at hwk
              have e2 : (l : Int) + 1 = ((l + 1 : Nat) : Int) := by omega
              have hst : (wr.setCell ⟨w3.heap.size, M, none⟩ (.int .i64 ((l : Int) + 1))).rowIs w3.heap.size 3 (n + 1) (lenF (wl rs j (l + 1) (k + 1))) := by
                rw [hwk, HM.out, e2]
                exact lenF_add hR4 (l + 1)
              have hlen1 : (wl rs j (l + 1) (k + 1)).length = M + 1 := by rw [hwk, List.length_append, ← HM.out]; rfl
              have HST := hide hst
              have HL1 := hide hlen1
              clear hst hlen1 hwk hkj hMk hm2 hck' e2
              go_wp2
              go_roundw
              case rel => exact ⟨k + 1, by omega, vi (by rw [HL1.out]; omega), vi (by omega), hB4.setCell (Nat.le_refl _) _, HST.out⟩
              case measure => simp [intOf]; omega
          · have hkj' : ((k : Int) != (j : Int)) = true := by rw [bne_iff_ne]; omega
            have c1 := hR4.cell (show M < n + 1 by omega)
            have iM : (M : Int) < (n : Int) + 1 := by omega
            have ikn : (k : Int) < (n : Int) := by omega
            rw [if_pos hkj] at hwk
            generalize lenF X M = v1 at c1
            generalize (rs.getD k []).length = lk at *
            have hst : (wr.setCell ⟨w3.heap.size, M, none⟩ (.int .i64 (lk : Nat))).rowIs w3.heap.size 3 (n + 1) (lenF (wl rs j (l + 1) (k + 1))) := by
              rw [hwk, HM.out]
              exact lenF_add hR4 lk
            have hlen1 : (wl rs j (l + 1) (k + 1)).length = M + 1 := by rw [hwk, List.length_append, ← HM.out]; rfl
            have HST := hide hst
            have HL1 := hide hlen1
            clear hst hlen1 hwk hm2
            go_wp2
            go_roundw
            case rel => exact ⟨k + 1, by omega, vi (by rw [HL1.out]; omega), vi (by omega), hB4.setCell (Nat.le_refl _) _, HST.out⟩
            case measure => simp [intOf]; omega
        · obtain rfl : n = k := by omega
          obtain ⟨w4, rfl⟩ : ∃ w4, w4 = wr := ⟨wr, rfl⟩
          clear hwll
          -- the set is made
          have hb14 : Below w1.heap.size w1 w4 := (hb2.trans (hBr.mono hb2s)).trans (hB4.mono (by omega))
          have hb4s := hB4.size
          have hLlt := hR4.lt
          obtain ⟨w5, hw5⟩ : ∃ w5, w5 = w4.alloc (.cells #[.slice (some ⟨w.heap.size, 0, none⟩) n n] 56) := ⟨_, rfl⟩
          have hb45 : Below w4.heap.size w4 w5 := by rw [hw5]; exact (Below.refl _ _).alloc (Nat.le_refl _) _
          have hw5s : w5.heap.size = w4.heap.size + 1 := by rw [hw5]; simp
          have hSet : Set0 w5 w4.heap.size w.heap.size n rs V := by
            refine Set0.of_copy hCp (hb14.trans (hb45.mono hb14.size)) ?_ ?_ hb14.size
            · rw [hw5, World.cell?_alloc_at _ _ _ _ rfl]; rfl
            · rw [hw5, World.frozen?_alloc_at _ _ _ _ rfl]
          have H31 := hide (put31 w4.heap.size w.heap.size n j p rs V id w5 hrs hn hj (by rw [← Hl.out]; exact hp) (by rw [← Hl.out]; omega) hSet)
          have hspe : decide (256 < (rs.getD j []).length + 1) = sp := by
            rw [← hsp, ← Hl.out]
            by_cases h' : 256 < l + 1
            · rw [decide_eq_true h', decide_eq_true (by omega)]
            · rw [decide_eq_false h', decide_eq_false (by omega)]
          rw [hspe] at H31
          have hlens := put_lens rs j p id (by omega) (by rw [← Hl.out]; exact hp)
          have hfl := put_flat rs j p id (by omega) (by rw [← Hl.out]; exact hp)
          rw [hrs, ← Hl.out] at hlens
          rw [← HW.out] at hfl
          obtain ⟨rs', hrs'⟩ : ∃ rs', rs' = putIn rs j p id := ⟨_, rfl⟩
          rw [← hrs'] at H31 hlens hfl
          obtain ⟨N, hN⟩ : ∃ N, N = rs'.length := ⟨_, rfl⟩
          have hNl : (wl rs j (l + 1) n).length = N := by rw [← hlens, List.length_map, hN]
          rw [hNl]
          have hN2 : N ≤ n + 1 := by rw [← hNl]; exact hm
          have HN := hide hN
          have Hlens := hide hlens
          have Hfl := hide hfl
          have HW5 := hide hw5
          have HR4 := hide hR4
          have HNl := hide hNl
          clear hspe hlens hfl hrs' hN hw5 hR4 hSet hNl
          go_wp2_with fail
          refine (new30 _ _ _ _).mono ?_
          rintro e wx ⟨rfl, hwx⟩
          rw [← HW5.out] at hwx
          obtain rfl := hwx.symm
          go_wp2_with fail
          refine H31.out.mono ?_
          rintro e w6 ⟨rfl, hK2, g6, cap6, hc6, hRA⟩
          rw [← HN.out] at hc6
          have H32 := hide (runs32 w4.heap.size _ w6 _ _ _ rfl hc6)
          go_wp2_with fail
          refine H32.out.mono ?_
          rintro e wx ⟨rfl, rfl⟩
          clear H32 H31
          have hspp : (sp != sp) = false := by simp
          have hNN : ((N : Int) != (N : Int)) = false := by simp
          have hK2s := hK2.size
          have hLens6 : w6.rowIs w3.heap.size 3 (n + 1) (lenF (wl rs j (l + 1) n)) := by
            refine (rowIs_below HR4.out hb45 hLlt).of_block (hK2.block _ (by omega) (by omega) (by omega))
          have hWant6 : w6.rowIs w2.heap.size 9 (T + 1) (strF W (T + 1)) := by
            have h4 := rowIs_below (rowIs_below hRr hB4 hRr.lt) hb45 (by have := hRr.lt; omega)
            have := hRr.lt
            exact h4.of_block (hK2.block _ (by omega) (by omega) (by omega))
          have hbfin : Below w.heap.size w w6 := by
            have h15 : Below w.heap.size w w5 := (hb1.trans (hb14.mono (by omega))).trans (hb45.mono (by omega))
            exact h15.trans (hK2.below (Nat.le_refl _) (by omega) (by omega))
          have HL6 := hide hLens6
          have HW6 := hide hWant6
          have HRA := hide hRA
          have Hbf := hide hbfin
          clear hLens6 hWant6 hRA hbfin
          go_wp2
          go_loopw [24] (fun t wr => ∃ k : Nat, k ≤ N ∧ t = .int .i64 k ∧ Below w6.heap.size w6 wr) (fun t _ => N - (intOf t).toNat)
          case atStart => exact ⟨0, Nat.zero_le _, rfl, Below.refl _ _⟩
          case round =>
            obtain ⟨k, hk, rfl, hB7⟩ := hrel
            by_cases hkN : k < N
            · obtain ⟨v, hv, a, c', rfl, _⟩ := HRA.out.below hB7 (Nat.le_refl _) k (by rw [← HN.out]; exact hkN)
              have c2 := (rowIs_below HL6.out hB7 HL6.out.lt).cell (show k < n + 1 by omega)
              have hlk : lenF (wl rs j (l + 1) n) k = .int .i64 ((rs'.getD k []).length : Nat) := by
                have hkr : k < rs'.length := by rw [← HN.out]; exact hkN
                unfold lenF
                rw [← Hlens.out]
                simp [List.getD, List.getElem?_eq_getElem hkr]
              rw [hlk] at c2
              clear hlk
              generalize (rs'.getD k []).length = lk at *
              have ik : (k : Int) < (N : Int) := by omega
              have ik2 : (k : Int) < ((n + 1 : Nat) : Int) := by omega
              have hll : ((lk : Int) != (lk : Int)) = false := by simp
              go_wp2
              go_quiet (fail)
              go_wp2
              go_roundw
              case rel => exact ⟨k + 1, by omega, vi (by omega), below_drewN hB7 nq⟩
              case measure => simp [intOf]; omega
            · obtain rfl : N = k := by omega
              obtain ⟨w7, rfl⟩ : ∃ w7, w7 = wr := ⟨wr, rfl⟩
              have hTl : T + 1 = rs'.flatten.length := by rw [Hfl.out]; exact hWl.out.symm
              have H33 := hide (flatten33 g6 cap6 rs' w7 N (T + 1) HN.out.symm (by omega) hTl (fun k hk => by rw [hTl]; exact sumTo_mono rs' k (by rw [← HN.out]; exact hk)) (by omega) (HRA.out.below hB7 (Nat.le_refl _)))
              clear hTl
              go_wp2_with fail
              refine H33.out.mono ?_
              rintro e w8 ⟨rfl, hb8, hGot⟩
              clear H33
              rw [Hfl.out] at hGot
              have hWant8 := rowIs_below (rowIs_below HW6.out hB7 HW6.out.lt) hb8 (by have := HW6.out.lt; have := hB7.size; omega)
              have hbfin : Below w.heap.size w w8 := (Hbf.out.trans (hB7.mono Hbf.out.size)).trans (hb8.mono (by have := Hbf.out.size; have := hB7.size; omega))
              have HG8 := hide hGot
              have HW8 := hide hWant8
              have Hbf8 := hide hbfin
              clear hGot hWant8 hbfin
              have hTT2 : (((T + 1 : Nat) : Int) != ((T + 1 : Nat) : Int)) = false := by simp
              go_wp2
              go_loopw [26] (fun t wr => ∃ k : Nat, k ≤ T + 1 ∧ t = .int .i64 k ∧ Below w8.heap.size w8 wr) (fun t _ => T + 1 - (intOf t).toNat)
              case atStart => exact ⟨0, Nat.zero_le _, rfl, Below.refl _ _⟩
              case round =>
                obtain ⟨k, hk9, rfl, hB9⟩ := hrel
                by_cases hkT9 : k < T + 1
                · have c1 := (rowIs_below HG8.out hB9 HG8.out.lt).cell hkT9
                  have c2 := (rowIs_below HW8.out hB9 HW8.out.lt).cell hkT9
                  rw [strF, if_pos hkT9] at c1 c2
                  generalize W.getD k ByteArray.empty = x at *
                  have ik : (k : Int) < (T : Int) + 1 := by omega
                  have hxx : (x.toList != x.toList) = false := by simp
                  go_wp2
                  go_quiet (fail)
                  go_wp2
                  go_roundw
                  case rel => exact ⟨k + 1, by omega, vi (by omega), below_drewN hB9 nq⟩
                  case measure => simp [intOf]; omega
                · go_wp2
                  go_ret
                  exact ⟨rfl, Hbf8.out.trans (hB9.mono Hbf8.out.size)⟩
end Go.Proofs.Qxb6602318a.Pi
