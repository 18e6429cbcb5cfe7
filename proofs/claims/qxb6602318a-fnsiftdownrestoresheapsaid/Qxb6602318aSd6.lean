import Derived.Test.Qxb6602318aSd5
namespace Go.Proofs.Qxb6602318a.Sd
open Go.RowKit

theorem zzSift (n i : Nat) (ss : List ByteArray) (Hb : Nat) (rb sb π : Nat → Nat) (w : World) (hn : n ≤ 65536) (hi : i < n) (h : Heads w n ss Hb rb sb π) :
    Calls Try.prog 22 #[.slice (some ⟨Hb, 0, none⟩) n n, .int .i64 i] w fun e w' => e = .returned (.tuple #[]) ∧ Below Hb w w' ∧ Heads w' n ss Hb rb sb (sift (fun o => ss.getD o ByteArray.empty) n n π i) := by
  have H := hide (sift_any n i ss Hb rb sb π w hn hi h)
  clear h
  generalize sift (fun o => ss.getD o ByteArray.empty) n n π i = F at *
  go_enter Try.func22, Try.ntmps22
  go_wp2_with fail
  refine H.out.mono ?_
  rintro e w' ⟨rfl, h1, h2⟩
  go_wp2
  go_end0
  exact ⟨rfl, h1, h2⟩

theorem Try.info3 : (Try.prog.info? 3).map (fun i => (i.zero, i.size, i.bytes)) = some (some (.int .i64 0), 1, 8) := by kernel_rfl

theorem Ids.below {w w' : World} {b off : Nat} {ss : List ByteArray} (h : Ids w b off ss) {B : Nat} (hb : Below B w w') (hB : b < B) : Ids w' b off ss :=
  fun i hi => (hb.cell (p := ⟨b, off + i, none⟩) hB).trans (h i hi)

theorem perm_id (n : Nat) : Perm n (fun p => p) := ⟨fun _ h => h, fun _ _ _ _ h => h⟩

set_option maxRecDepth 100000 in
set_option maxHeartbeats 2000000 in
theorem moves_core (b off c : Nat) (ss : List ByteArray) (i : Int) (w : World) (n : Nat) (hss : ss.length = n) (hn : n ≤ maxLen) (hs : ∀ s ∈ ss, s.size ≤ maxLen) (hc : Ids w b off ss) (hb : b < w.heap.size) :
    Calls Try.prog 7 #[.slice (some ⟨b, off, none⟩) n c, .int .i64 i] w fun e w' => e = .returned (.bool true) ∧ Below w.heap.size w w' := by
  have C25 := bytes25 b off c ss i w (hss ▸ hn) hs hc
  have C18 := fun h => fit18 b off c ss w h hs hc
  rw [hss] at C25 C18
  have H25 := hide C25
  have H18 := hide C18
  have HC := hide hc
  clear C25 C18 hs hc
  unfold maxLen at hn
  go_enter Try.func7, Try.ntmps7
  go_wp2_with fail
  refine H25.out.mono ?_
  rintro e w' ⟨⟨r, rfl, hr⟩, rfl⟩
  cases r
  · clear hr
    go_wp2
    go_ret
    exact ⟨rfl, Below.refl _ _⟩
  have hn1 := hr rfl
  clear hr
  go_wp2_with fail
  refine (H18.out hn1).mono ?_
  rintro e w' ⟨⟨r, rfl, hr⟩, rfl⟩
  cases r
  · clear hr
    go_wp2
    go_ret
    exact ⟨rfl, Below.refl _ _⟩
  have hn2 := hr rfl
  clear hr hn1 H25 H18
  by_cases hi0 : i < 0
  · go_wp2
    go_ret
    exact ⟨rfl, Below.refl _ _⟩
  by_cases hin : (n : Int) ≤ i
  · go_wp2
    go_ret
    exact ⟨rfl, Below.refl _ _⟩
  obtain ⟨j, rfl⟩ := Int.eq_ofNat_of_zero_le (show 0 ≤ i by omega)
  have hjn : j < n := by omega
  have d1 : decide ((j : Int) < 0) = false := decide_eq_false (by omega)
  have d2 : decide ((n : Int) ≤ (j : Int)) = false := decide_eq_false (by omega)
  clear hi0 hin
  go_wp2
  go_loopw [6, 7] (fun u t wr => ∃ (k : Nat), k ≤ 2 ∧ u = .bool (inPl ss n j k) ∧ t = .int .i64 (2 * (j : Int) + 1 + (k : Int)) ∧ Below w.heap.size w wr) (fun _ t _ => (2 * (j : Int) + 3 - intOf t).toNat)
  case atStart => exact ⟨0, by omega, rfl, vi (by omega), Below.refl _ _⟩
  case round =>
    obtain ⟨k, hk, rfl, rfl, hB⟩ := hrel
    have hbr : b < wr.heap.size := by have := hB.size; omega
    have hI : Ids wr b off ss := HC.out.below hB hb
    by_cases hk2 : k < 2
    · obtain ⟨x, hx⟩ : ∃ x, x = 2 * j + 1 + k := ⟨_, rfl⟩
      have ex : 2 * (j : Int) + 1 + (k : Int) = (x : Int) := by omega
      rw [ex]
      have hxle : (x : Int) ≤ 2 * (j : Int) + 2 := by omega
      have hip : inPl ss n j (k + 1) = (inPl ss n j k && !(decide (x < n) && lessB (ss.getD x ByteArray.empty) (ss.getD j ByteArray.empty))) := by rw [inPl, hx]
      have HX := hide hx
      clear ex hx
      have c1 := hI j (by omega)
      obtain ⟨sj, hsj⟩ : ∃ s, s = ss.getD j ByteArray.empty := ⟨_, rfl⟩
      rw [← hsj] at c1 hip
      by_cases hxn : x < n
      · have c2 := hI x (by omega)
        obtain ⟨sx, hsx⟩ : ∃ s, s = ss.getD x ByteArray.empty := ⟨_, rfl⟩
        rw [← hsx] at c2 hip
        obtain ⟨r, hr⟩ : ∃ r, Op.bytesLess sx.toList sj.toList = r := ⟨_, rfl⟩
        have hip2 : inPl ss n j (k + 1) = (inPl ss n j k && !r) := by rw [hip, ← hr, decide_eq_true hxn]; rfl
        have HI := hide hip2
        have ix : (x : Int) < (n : Int) := by omega
        have ij : (j : Int) < (n : Int) := by omega
        clear hip hip2 hsj hsx hI
        go_wp2
        go_quiet (fail)
        cases r
        · go_wp2
          go_roundw
          case rel => exact ⟨k + 1, by omega, by rw [HI.out, Bool.not_false, Bool.and_true], vi (by have := HX.out; omega), below_drewN hB nq⟩
          case measure => have := HX.out; simp [intOf]; omega
        · go_wp2
          go_roundw
          case rel => exact ⟨k + 1, by omega, by rw [HI.out, Bool.not_true, Bool.and_false], vi (by have := HX.out; omega), below_drewN hB nq⟩
          case measure => have := HX.out; simp [intOf]; omega
      · have hip2 : inPl ss n j (k + 1) = inPl ss n j k := by rw [hip, decide_eq_false hxn]; simp
        have HI := hide hip2
        have dx : decide ((x : Int) < (n : Int)) = false := decide_eq_false (by omega)
        clear hip hip2 hsj hI
        go_wp2
        go_quiet (fail)
        go_wp2
        go_roundw
        case rel => exact ⟨k + 1, by omega, by rw [HI.out], vi (by have := HX.out; omega), below_drewN hB nq⟩
        case measure => have := HX.out; simp [intOf]; omega
    · obtain rfl : k = 2 := by omega
      have hgt : ¬ 2 * (j : Int) + 1 + ((2 : Nat) : Int) ≤ 2 * (j : Int) + 2 := by omega
      have H21 := hide (tagged_any b off c ss wr n hss hn2 hI hbr)
      clear hI
      have d3 : decide (2 * (j : Int) + 1 ≤ 2 * (j : Int)) = false := decide_eq_false (by omega)
      obtain ⟨ip, hip⟩ : ∃ ip, ip = inPl ss n j 2 := ⟨_, rfl⟩
      rw [← hip]
      have HIP := hide hip
      clear hip
      go_wp2_with fail
      refine H21.out.mono ?_
      rintro e w1 ⟨rfl, hT1, hT2, rb, sb, hH⟩
      have H22 := hide (zzSift n j ss (wr.heap.size + 1) rb sb (fun p => p) w1 hn2 hjn hH)
      have hlts := hide hH.lts
      have hPm := sift_perm (fun o => ss.getD o ByteArray.empty) n n (fun p => p) j hjn (perm_id n)
      have hout := sift_out (fun o => ss.getD o ByteArray.empty) n n (fun p => p) j
      have hml := moves_law ss n j hjn
      clear H21 hH
      obtain ⟨F, hF⟩ : ∃ F, F = sift (fun o => ss.getD o ByteArray.empty) n n (fun p => p) j := ⟨_, rfl⟩
      rw [← hF] at H22 hPm hout hml
      rw [← HIP.out] at hml
      clear hF
      have Hout := hide hout
      have Hml := hide hml
      clear hout hml
      go_wp2_with fail
      refine H22.out.mono ?_
      rintro e w2 ⟨rfl, hB2, hH⟩
      clear H22
      have hI : Ids w2 b off ss := (HC.out.below (hB.trans (hT1.mono hB.size)) hb).below hB2 (by omega)
      have mk1 := run_make_row' (P := Try.prog) 27 9 (.string ByteArray.empty) 16 Try.underlying27 Try.info9 rfl .i64 .i64 n (by omega) (by omega)
      have mk2 := run_make_row' (P := Try.prog) 33 3 (.int .i64 0) 8 Try.underlying33 Try.info3 rfl .i64 .i64 n (by omega) (by omega)
      have hs2 := hB2.size
      let w3 := (w2.alloc (.cells (madeCells #[.string ByteArray.empty] n) 9)).alloc (.cells (madeCells #[.int .i64 0] n) 3)
      have hb3 : Below w2.heap.size w2 w3 := ((Below.refl _ _).alloc (Nat.le_refl _) _).alloc (by simp) _
      have C23 := read_any b off c n ss (wr.heap.size + 1) w2.heap.size (w2.heap.size + 1) rb sb F w3 hss hn2 (hI.below hb3 (by omega)) (hH.below hb3 (by omega) hH.lts) hPm.inj (by omega) (by omega) hH.lts (by omega)
        ((World.rowIs_made _ _ _ _).alloc _) (by have := World.rowIs_made (w2.alloc (.cells (madeCells #[.string ByteArray.empty] n) 9)) (.int .i64 0) n 3; simpa using this)
      have H23 := hide C23
      simp only [w3] at H23
      have hbb : Below w.heap.size w w2 := (hB.trans (hT1.mono hB.size)).trans (hB2.mono (by have := hB.size; omega))
      clear C23 hI hH
      clear hb3 w3
      go_wp2_with fail
      refine H23.out.mono ?_
      rintro e w4 ⟨rfl, hB4, hK4, hO4⟩
      have hfin : Below w.heap.size w w4 := by
        have := hB.size
        have h34 : Below w.heap.size w2 w4 := (((Below.refl _ _).alloc (by omega) _).alloc (by simp; omega) _).trans (hB4.mono (by omega))
        exact hbb.trans h34
      clear hK4 hB4 hbb H23 mk1 mk2
      go_wp2
      go_loop [11, 12] (fun u t => ∃ (k : Nat), k ≤ n ∧ u = .bool (unch F k) ∧ t = .int .i64 k) (fun _ t => n - (intOf t).toNat)
      case atStart => exact ⟨0, Nat.zero_le _, rfl, rfl⟩
      case round =>
        obtain ⟨k, hk, rfl, rfl⟩ := hrel
        by_cases hkn : k < n
        · have ck := hO4.cell hkn
          rw [origF, if_pos hkn] at ck
          have hb := hPm.bnd k hkn
          have hu : unch F (k + 1) = (unch F k && (F k == k)) := rfl
          by_cases hfk : F k = k
          · have hne : (((F k : Nat) : Int) != ((k : Nat) : Int)) = false := by rw [hfk]; simp
            have HU := hide hu
            have HK := hide hfk
            clear hu hfk
            generalize F k = fk at *
            go_wp2
            go_round
            case rel => exact ⟨k + 1, by omega, by rw [HU.out, HK.out]; simp, vi (by omega)⟩
            case measure => simp [intOf]; omega
          · have hne : (((F k : Nat) : Int) != ((k : Nat) : Int)) = true := by rw [bne_iff_ne]; omega
            have hsub : inSub k j = true := by
              cases e : inSub k j
              · exact absurd (Hout.out k e) hfk
              · rfl
            have H24 := sub24 k j w4 (by omega) (by omega)
            rw [hsub] at H24
            have H24' := hide H24
            have HU := hide hu
            have HK := hide hfk
            clear hu hfk H24 hsub
            generalize F k = fk at *
            go_wp2_with fail
            refine H24'.out.mono ?_
            rintro e w' ⟨rfl, rfl⟩
            go_wp2
            go_round
            case rel => exact ⟨k + 1, by omega, by rw [HU.out]; have : (fk == k) = false := (by rw [beq_eq_false_iff_ne]; exact HK.out); rw [this, Bool.and_false], vi (by omega)⟩
            case measure => simp [intOf]; omega
        · obtain rfl : k = n := by omega
          rw [Hml.out]
          go_wp2
          go_ret
          exact ⟨rfl, hfin⟩

set_option maxHeartbeats 400000 in
theorem bytes25_nil (a : Option Addr) (c : Nat) (i : Int) (w : World) : Calls Try.prog 25 #[.slice a 0 c, .int .i64 i] w fun e w' => e = .returned (.bool true) ∧ w = w' := by
  go_enter Try.func25, Try.ntmps25
  go_wp2
  refine wp_loop_rounds 1 ?_
  rw [rounds_succ]
  go_wp2
  go_ret
  exact ⟨rfl, rfl⟩
set_option maxHeartbeats 400000 in
theorem bytes17_nil (a : Option Addr) (c : Nat) (i : Int) (w : World) : Calls Try.prog 17 #[.slice a 0 c, .int .i64 i] w fun e w' => e = .returned (.bool true) ∧ w = w' := by
  go_enter Try.func17, Try.ntmps17
  go_wp2
  refine wp_loop_rounds 1 ?_
  rw [rounds_succ]
  go_wp2
  go_ret
  exact ⟨rfl, rfl⟩
set_option maxHeartbeats 400000 in
theorem fit18_nil (a : Option Addr) (c : Nat) (w : World) : Calls Try.prog 18 #[.slice a 0 c] w fun e w' => e = .returned (.bool true) ∧ w = w' := by
  go_enter Try.func18, Try.ntmps18
  go_wp2
  refine wp_loop_rounds 1 ?_
  rw [rounds_succ]
  go_wp2
  go_ret
  exact ⟨rfl, rfl⟩
set_option maxHeartbeats 400000 in
theorem moves_nil (a : Option Addr) (c : Nat) (i : Int) (w : World) :
    Calls Try.prog 7 #[.slice a 0 c, .int .i64 i] w fun e w' => e = .returned (.bool true) ∧ Below w.heap.size w w' := by
  by_cases hi : i < 0
  all_goals
    go_enter Try.func7, Try.ntmps7
    go_wp2_with (first | (go_at_call 25; refine (bytes25_nil _ _ _ _).mono ?_; rintro e w' ⟨rfl, rfl⟩) | (go_at_call 18; refine (fit18_nil _ _ _).mono ?_; rintro e w' ⟨rfl, rfl⟩))
    go_ret
    exact ⟨rfl, Below.refl _ _⟩

end Go.Proofs.Qxb6602318a.Sd
