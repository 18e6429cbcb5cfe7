import Derived.Test.Qxb6602318aSd8
namespace Go.Proofs.Qxb6602318a.Sd
open Go.RowKit

/-- The ids in the order of the heads. -/
def keysOf (ss : List ByteArray) (F : Nat → Nat) (n : Nat) : List ByteArray := (List.range n).map fun p => ss.getD (F p) ByteArray.empty
theorem keysOf_length (ss : List ByteArray) (F : Nat → Nat) (n : Nat) : (keysOf ss F n).length = n := by simp [keysOf]
theorem keysOf_getD (ss : List ByteArray) (F : Nat → Nat) (n p : Nat) (h : p < n) : (keysOf ss F n).getD p ByteArray.empty = ss.getD (F p) ByteArray.empty := by simp [keysOf, List.getD, h]

theorem heapEx_congr {K K' : Nat → ByteArray} {n : Nat} {s : Int} (e : ∀ p, p < n → K p = K' p) (h : HeapEx K n s) : HeapEx K' n s := by
  intro p hp hs
  obtain ⟨h1, h2⟩ := h p hp hs
  exact ⟨fun a => by rw [← e p hp, ← e _ a]; exact h1 a, fun a => by rw [← e p hp, ← e _ a]; exact h2 a⟩

set_option maxRecDepth 100000 in
set_option maxHeartbeats 2000000 in
theorem restores_core (b off c : Nat) (ss : List ByteArray) (i : Int) (w : World) (n : Nat) (hss : ss.length = n) (hn : n ≤ maxLen) (hs : ∀ s ∈ ss, s.size ≤ maxLen) (hc : Ids w b off ss) (hb : b < w.heap.size) :
    Calls Try.prog 6 #[.slice (some ⟨b, off, none⟩) n c, .int .i64 i] w fun e w' => e = .returned (.bool true) ∧ Below w.heap.size w w' := by
  have C17 := bytes17 b off c ss i w (hss ▸ hn) hs hc
  have C18 := fun h => fit18 b off c ss w h hs hc
  rw [hss] at C17 C18
  have H17 := hide C17
  have H18 := hide C18
  have HC := hide hc
  clear C17 C18 hs hc
  unfold maxLen at hn
  go_enter Try.func6, Try.ntmps6
  go_wp2_with fail
  refine H17.out.mono ?_
  rintro e w' ⟨⟨r, rfl, hr⟩, rfl⟩
  cases r
  · clear hr
    go_wp2
    go_ret
    exact ⟨rfl, Below.refl _ _⟩
  have hn1 := hr rfl
  clear hr
  go_wp2_with fail
  refine (H18.out hn1).mono ?_
  rintro e w' ⟨⟨r, rfl, hr⟩, rfl⟩
  cases r
  · clear hr
    go_wp2
    go_ret
    exact ⟨rfl, Below.refl _ _⟩
  have hn2 := hr rfl
  clear hr hn1 H17 H18
  by_cases hi0 : i < 0
  · go_wp2
    go_ret
    exact ⟨rfl, Below.refl _ _⟩
  by_cases hin : (n : Int) ≤ i
  · go_wp2
    go_ret
    exact ⟨rfl, Below.refl _ _⟩
  obtain ⟨j, rfl⟩ := Int.eq_ofNat_of_zero_le (show 0 ≤ i by omega)
  have hjn : j < n := by omega
  have d1 : decide ((j : Int) < 0) = false := decide_eq_false (by omega)
  have d2 : decide ((n : Int) ≤ (j : Int)) = false := decide_eq_false (by omega)
  clear hi0 hin
  have H19 := hide (heap19 b off c ss j w n hss hn2 HC.out)
  go_wp2_with fail
  refine H19.out.mono ?_
  rintro e w1 ⟨⟨r, rfl, hr⟩, hB1⟩
  clear H19
  cases r
  · clear hr
    go_wp2
    go_ret
    exact ⟨rfl, hB1⟩
  have hHeap := hide (hr.1 rfl)
  clear hr
  have H20 := hide (child20 b off c ss j w1 n hss hn2 hjn (HC.out.below hB1 hb))
  go_wp2_with fail
  refine H20.out.mono ?_
  rintro e wr ⟨⟨r, rfl, hr⟩, hB1'⟩
  clear H20
  have hB : Below w.heap.size w wr := hB1.trans (hB1'.mono hB1.size)
  clear hB1' hB1
  cases r
  · clear hr
    go_wp2
    go_ret
    exact ⟨rfl, hB⟩
  have hChild := hide (hr.1 rfl)
  clear hr
  have hbr : b < wr.heap.size := by have := hB.size; omega
  have H21 := hide (tagged_any b off c ss wr n hss hn2 (HC.out.below hB hb) hbr)
  go_wp2_with fail
  refine H21.out.mono ?_
  rintro e w1 ⟨rfl, hT1, hT2, rb, sb, hH⟩
  have H22 := hide (zzSift n j ss (wr.heap.size + 1) rb sb (fun p => p) w1 hn2 hjn hH)
  have hPm := sift_perm (fun o => ss.getD o ByteArray.empty) n n (fun p => p) j hjn (perm_id n)
  have hout := sift_out (fun o => ss.getD o ByteArray.empty) n n (fun p => p) j
  have hml := sift_heap (fun o => ss.getD o ByteArray.empty) n n (fun p => p) j hjn (by omega) hHeap.out hChild.out
  clear H21 hH
  obtain ⟨F, hF⟩ : ∃ F, F = sift (fun o => ss.getD o ByteArray.empty) n n (fun p => p) j := ⟨_, rfl⟩
  rw [← hF] at H22 hPm hout hml
  clear hF
  have Hout := hide hout
  have Hml := hide hml
  clear hout hml
  go_wp2_with fail
  refine H22.out.mono ?_
  rintro e w2 ⟨rfl, hB2, hH⟩
  clear H22
  have hI : Ids w2 b off ss := (HC.out.below (hB.trans (hT1.mono hB.size)) hb).below hB2 (by omega)
  have mk1 := run_make_row' (P := Try.prog) 27 9 (.string ByteArray.empty) 16 Try.underlying27 Try.info9 rfl .i64 .i64 n (by omega) (by omega)
  have mk2 := run_make_row' (P := Try.prog) 33 3 (.int .i64 0) 8 Try.underlying33 Try.info3 rfl .i64 .i64 n (by omega) (by omega)
  have hs2 := hB2.size
  let w3 := (w2.alloc (.cells (madeCells #[.string ByteArray.empty] n) 9)).alloc (.cells (madeCells #[.int .i64 0] n) 3)
  have hb3 : Below w2.heap.size w2 w3 := ((Below.refl _ _).alloc (Nat.le_refl _) _).alloc (by simp) _
  have C23 := read_any b off c n ss (wr.heap.size + 1) w2.heap.size (w2.heap.size + 1) rb sb F w3 hss hn2 (hI.below hb3 (by omega)) (hH.below hb3 (by omega) hH.lts) hPm.inj (by omega) (by omega) hH.lts (by omega)
    ((World.rowIs_made _ _ _ _).alloc _) (by have := World.rowIs_made (w2.alloc (.cells (madeCells #[.string ByteArray.empty] n) 9)) (.int .i64 0) n 3; simpa using this)
  have H23 := hide C23
  simp only [w3] at H23
  have hbb : Below w.heap.size w w2 := (hB.trans (hT1.mono hB.size)).trans (hB2.mono (by have := hB.size; omega))
  clear C23 hI hH
  clear hb3 w3
  go_wp2_with fail
  refine H23.out.mono ?_
  rintro e w4 ⟨rfl, hB4, hK4, hO4⟩
  have hfin : Below w.heap.size w w4 := by
    have := hB.size
    have h34 : Below w.heap.size w2 w4 := (((Below.refl _ _).alloc (by omega) _).alloc (by simp; omega) _).trans (hB4.mono (by omega))
    exact hbb.trans h34
  have hKI : Ids w4 w2.heap.size 0 (keysOf ss F n) := by
    intro p hp
    rw [keysOf_length] at hp
    rw [Nat.zero_add, keysOf_getD ss F n p hp, hK4.cell hp, keyF, if_pos hp]
  have HKI := hide hKI
  clear hKI hK4 hB4 hbb H23 mk1 mk2
  go_wp2
  go_loop [9] (fun t => ∃ (k : Nat), k ≤ n ∧ t = .int .i64 k) (fun t => n - (intOf t).toNat)
  case atStart => exact ⟨0, Nat.zero_le _, rfl⟩
  case round =>
    obtain ⟨k, hk, rfl⟩ := hrel
    by_cases hkn : k < n
    · have ck := hO4.cell hkn
      rw [origF, if_pos hkn] at ck
      have hb := hPm.bnd k hkn
      by_cases hfk : F k = k
      · have hne : (((F k : Nat) : Int) != ((k : Nat) : Int)) = false := by rw [hfk]; simp
        clear hfk
        generalize F k = fk at *
        go_wp2
        go_round
        case rel => exact ⟨k + 1, by omega, vi (by omega)⟩
        case measure => simp [intOf]; omega
      · have hne : (((F k : Nat) : Int) != ((k : Nat) : Int)) = true := by rw [bne_iff_ne]; omega
        have hsub : inSub k j = true := by
          cases e : inSub k j
          · exact absurd (Hout.out k e) hfk
          · rfl
        have H24 := sub24 k j w4 (by omega) (by omega)
        rw [hsub] at H24
        have H24' := hide H24
        clear hfk H24 hsub
        generalize F k = fk at *
        go_wp2_with fail
        refine H24'.out.mono ?_
        rintro e w' ⟨rfl, rfl⟩
        go_wp2
        go_round
        case rel => exact ⟨k + 1, by omega, vi (by omega)⟩
        case measure => simp [intOf]; omega
    · obtain rfl : k = n := by omega
      have H19 := hide (heap19 w2.heap.size 0 k (keysOf ss F k) (-1) w4 k (keysOf_length ss F k) hn2 HKI.out)
      go_wp2_with fail
      refine H19.out.mono ?_
      rintro e w5 ⟨⟨r, rfl, hr⟩, hB5⟩
      obtain rfl : r = true := hr.2 (heapEx_congr (fun p hp => (keysOf_getD ss F k p hp).symm) Hml.out)
      go_wp2
      go_ret
      exact ⟨rfl, hfin.trans (hB5.mono hfin.size)⟩

set_option maxHeartbeats 400000 in
theorem restores_nil (a : Option Addr) (c : Nat) (i : Int) (w : World) :
    Calls Try.prog 6 #[.slice a 0 c, .int .i64 i] w fun e w' => e = .returned (.bool true) ∧ Below w.heap.size w w' := by
  by_cases hi : i < 0
  all_goals
    go_enter Try.func6, Try.ntmps6
    go_wp2_with (first | (go_at_call 17; refine (bytes17_nil _ _ _ _).mono ?_; rintro e w' ⟨rfl, rfl⟩) | (go_at_call 18; refine (fit18_nil _ _ _).mono ?_; rintro e w' ⟨rfl, rfl⟩))
    go_ret
    exact ⟨rfl, Below.refl _ _⟩

end Go.Proofs.Qxb6602318a.Sd
