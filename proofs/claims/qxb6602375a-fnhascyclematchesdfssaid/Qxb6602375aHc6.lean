import Derived.Test.Qxb6602375aHc5
namespace Go.Proofs.Qxb6602375a.Hc
open Go.RowKit

set_option maxHeartbeats 1000000 in
theorem zz11 (a0 : Option Addr) (n c : Nat) (G : List (List Nat)) (w : World) (h : Calls Try.prog 28 #[.slice a0 n c] w fun e w' => Says e G ∧ Below w.heap.size w w') :
    Calls Try.prog 11 #[.slice a0 n c] w fun e w' => Says e G ∧ Below w.heap.size w w' := by
  have H := hide h
  clear h
  go_enter Try.func11, Try.ntmps11
  go_wp2_with fail
  refine H.out.mono ?_
  rintro e w' ⟨⟨r, rfl, hr⟩, hb⟩
  have HR := hide hr
  clear hr
  go_wp2
  go_ret
  exact ⟨⟨r, rfl, HR.out⟩, hb⟩

/-! ### The graph without nodes -/
theorem no_knot_nil : ¬ Knot [] := by
  rintro ⟨C, hne, hC⟩
  cases C with
  | nil => exact hne rfl
  | cons c C =>
    obtain ⟨p, _, he⟩ := hC c (List.mem_cons_self ..)
    have := row_lt he
    simp at this

set_option maxHeartbeats 1000000 in
theorem kahn28_nil (a0 : Option Addr) (c : Nat) (w : World) : Calls Try.prog 28 #[.slice a0 0 c] w fun e w' => Says e [] ∧ Below w.heap.size w w' := by
  have mk1 := run_make_row' (P := Try.prog) 24 3 (.int .i64 0) 8 Try.underlying24 Try.info3 rfl .i64 .i64 0 (by omega) (by omega)
  simp only [Int.natCast_zero] at mk1
  go_enter Try.func28, Try.ntmps28
  go_wp2
  refine wp_loop_rounds 1 ?_
  rw [rounds_succ]
  go_wp2
  refine wp_loop_rounds 1 ?_
  rw [rounds_succ]
  go_wp2
  refine wp_loop_rounds 1 ?_
  rw [rounds_succ]
  go_wp2
  go_ret
  exact ⟨Says.of (r := false) rfl ⟨fun e => (by cases e), fun h => absurd h no_knot_nil⟩, (Below.refl _ _).alloc (Nat.le_refl _) _⟩
set_option maxHeartbeats 1000000 in
theorem dfs12_nil (a0 : Option Addr) (c : Nat) (w : World) : Calls Try.prog 12 #[.slice a0 0 c] w fun e w' => Says e [] ∧ Below w.heap.size w w' := by
  have mk1 := run_make_row' (P := Try.prog) 24 3 (.int .i64 0) 8 Try.underlying24 Try.info3 rfl .i64 .i64 0 (by omega) (by omega)
  simp only [Int.natCast_zero] at mk1
  go_enter Try.func12, Try.ntmps12
  go_wp2
  refine wp_loop_rounds 1 ?_
  rw [rounds_succ]
  go_wp2
  go_ret
  exact ⟨Says.of (r := false) rfl ⟨fun e => (by cases e), fun h => absurd h no_knot_nil⟩, (((Below.refl _ _).alloc (Nat.le_refl _) _).alloc (by simp) _).alloc (by simp; omega) _⟩
set_option maxHeartbeats 1000000 in
theorem bytes8_nil (a0 : Option Addr) (c : Nat) (w : World) : Calls Try.prog 8 #[.slice a0 0 c] w fun e w' => e = .returned (.bool true) ∧ w = w' := by
  go_enter Try.func8, Try.ntmps8
  go_wp2
  refine wp_loop_rounds 1 ?_
  rw [rounds_succ]
  go_wp2
  go_ret
  exact ⟨rfl, rfl⟩
set_option maxHeartbeats 1000000 in
theorem big9_nil (a0 : Option Addr) (c : Nat) (w : World) : Calls Try.prog 9 #[.slice a0 0 c] w fun e w' => e = .returned (.bool false) ∧ w = w' := by
  go_enter Try.func9, Try.ntmps9
  go_wp2
  refine wp_loop_rounds 1 ?_
  rw [rounds_succ]
  go_wp2
  go_ret
  exact ⟨rfl, rfl⟩
set_option maxHeartbeats 1000000 in
theorem heads10_nil (a0 : Option Addr) (c : Nat) (w : World) : Calls Try.prog 10 #[.slice a0 0 c] w fun e w' => e = .returned (.bool true) ∧ w = w' := by
  go_enter Try.func10, Try.ntmps10
  go_wp2
  refine wp_loop_rounds 1 ?_
  rw [rounds_succ]
  go_wp2
  go_ret
  exact ⟨rfl, rfl⟩

set_option maxHeartbeats 1000000 in
/-- The end of the law: both answer alike. -/
theorem law3_nil (a0 : Option Addr) (c : Nat) (w : World) : Calls Try.prog 3 #[.slice a0 0 c] w fun e w' => e = .returned (.bool true) ∧ Below w.heap.size w w' := by
  have H8 := hide (bytes8_nil a0 c w)
  have H9 := hide (big9_nil a0 c w)
  have H10 := hide (heads10_nil a0 c w)
  have H11 := hide (zz11 a0 0 c [] w (kahn28_nil a0 c w))
  have H12 := hide (fun w => dfs12_nil a0 c w)
  go_enter Try.func3, Try.ntmps3
  go_wp2_with fail
  refine H8.out.mono ?_
  rintro e w' ⟨rfl, rfl⟩
  go_wp2_with fail
  refine H9.out.mono ?_
  rintro e w' ⟨rfl, rfl⟩
  go_wp2_with fail
  refine H10.out.mono ?_
  rintro e w' ⟨rfl, rfl⟩
  go_wp2_with fail
  refine H11.out.mono ?_
  rintro e w1 ⟨⟨r1, rfl, hr1⟩, hb1⟩
  have HR1 := hide hr1
  have HB1 := hide hb1
  clear hr1 hb1
  go_wp2_with fail
  refine (H12.out w1).mono ?_
  rintro e w2 ⟨⟨r2, rfl, hr2⟩, hb2⟩
  obtain rfl : r1 = r2 := Bool.eq_iff_iff.2 (HR1.out.trans hr2.symm)
  have HB2 := hide hb2
  clear hr2 hb2 HR1
  cases r1
  all_goals
    go_wp2
    go_ret
    exact ⟨rfl, HB1.out.trans (HB2.out.mono HB1.out.size)⟩

theorem getD_map (rs : List (List Int)) (k : Nat) : row (rs.map (·.map Int.toNat)) k = (rs.getD k []).map Int.toNat := by
  unfold row
  rw [List.getD_eq_getElem?_getD, List.getElem?_map, List.getD_eq_getElem?_getD]
  cases rs[k]? <;> rfl
theorem getD_map2 (l : List Int) (j : Nat) (hj : j < l.length) : (l.map Int.toNat).getD j 0 = (l.getD j 0).toNat := by
  rw [List.getD_eq_getElem?_getD, List.getElem?_map, List.getD_eq_getElem?_getD, List.getElem?_eq_getElem hj]; rfl
theorem ArgG.of {w : World} {b off n : Nat} {rs : List (List Int)} {A : Nat → Option Addr} {C : Nat → Nat} (h : ArgRows w b off rs A C) (hrs : rs.length = n) (hn : n ≤ 131072) (hl : ∀ k, k < n → (rs.getD k []).length ≤ 131072)
    (hh : ∀ k j, k < n → j < (rs.getD k []).length → 0 ≤ (rs.getD k []).getD j 0 ∧ (rs.getD k []).getD j 0 < n) : ArgG w b off n (rs.map (·.map Int.toNat)) A C := by
  refine ⟨fun k hk => ?_, fun k j hk hj => ?_, fun k => ?_, hn, by rw [List.length_map]; exact hrs, fun u v hv => ?_⟩
  · rw [getD_map, List.length_map]; exact h.cell k (by omega)
  · rw [getD_map, List.length_map] at hj
    obtain ⟨b', o', h1, h2⟩ := h.row k (by omega) (by omega)
    refine ⟨b', o', h1, ?_⟩
    rw [h2 j hj, getD_map, getD_map2 _ _ hj]
    have := (hh k j hk hj).1
    rw [Int.toNat_of_nonneg this]
  · rw [getD_map, List.length_map]
    by_cases hk : k < n
    · exact hl k hk
    · rw [List.getD_eq_getElem?_getD, List.getElem?_eq_none (by omega)]; simp
  · have hu := row_lt hv
    rw [List.length_map, hrs] at hu
    rw [getD_map, List.mem_map] at hv
    obtain ⟨x, hx, rfl⟩ := hv
    obtain ⟨j, hj, rfl⟩ := List.getElem_of_mem hx
    have h1 := hh u j hu hj
    rw [List.getD_eq_getElem?_getD (l := rs.getD u []), List.getElem?_eq_getElem hj] at h1
    simp only [Option.getD_some] at h1
    omega

set_option maxHeartbeats 1000000 in
theorem law3_core (b off c : Nat) (rs : List (List Int)) (A : Nat → Option Addr) (C : Nat → Nat) (w : World) (n : Nat) (hrs : rs.length = n) (h : ArgRows w b off rs A C) :
    Calls Try.prog 3 #[.slice (some ⟨b, off, none⟩) n c] w fun e w' => e = .returned (.bool true) ∧ Below w.heap.size w w' := by
  have H8 := hide (bytes8 b off c rs A C w n hrs h)
  have H9 := hide (big9 b off c rs A C w n hrs h)
  have H := hide h
  have HRS := hide hrs
  clear h hrs
  go_enter Try.func3, Try.ntmps3
  go_wp2_with fail
  refine H8.out.mono ?_
  rintro e w' ⟨⟨r, rfl⟩, rfl⟩
  cases r
  · go_wp2
    go_ret
    exact ⟨rfl, Below.refl _ _⟩
  go_wp2_with fail
  refine H9.out.mono ?_
  rintro e w' ⟨⟨r, rfl, h9⟩, rfl⟩
  cases r
  · have h9' := h9 rfl
    have H10 := hide (heads10 b off c rs A C w n HRS.out h9'.1 h9'.2 H.out)
    have HF := hide h9'
    clear h9 h9' H8 H9
    go_wp2_with fail
    refine H10.out.mono ?_
    rintro e w' ⟨⟨r, rfl, h10⟩, rfl⟩
    cases r
    · clear h10
      go_wp2
      go_ret
      exact ⟨rfl, Below.refl _ _⟩
    · have hA := ArgG.of H.out HRS.out HF.out.1 HF.out.2 (h10 rfl)
      have HA := hide hA
      have H11 := hide (zz11 (some ⟨b, off, none⟩) n c _ w (kahn28 b off c n _ A C w hA))
      clear h10 hA H10
      go_wp2_with fail
      refine H11.out.mono ?_
      rintro e w1 ⟨⟨r1, rfl, hr1⟩, hb1⟩
      have HR1 := hide hr1
      have HB1 := hide hb1
      have H12 := hide (dfs12 b off c n _ A C w1 (HA.out.below hb1))
      clear hr1 hb1 H11
      go_wp2_with fail
      refine H12.out.mono ?_
      rintro e w2 ⟨⟨r2, rfl, hr2⟩, hb2⟩
      obtain rfl : r1 = r2 := Bool.eq_iff_iff.2 (HR1.out.trans hr2.symm)
      have HB2 := hide hb2
      clear hr2 hb2 HR1 H12
      cases r1
      all_goals
        go_wp2
        go_ret
        exact ⟨rfl, HB1.out.trans (HB2.out.mono HB1.out.size)⟩
  · clear h9
    go_wp2
    go_ret
    exact ⟨rfl, Below.refl _ _⟩
end Go.Proofs.Qxb6602375a.Hc
