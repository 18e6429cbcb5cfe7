import Derived.Test.Qxb6602318aPi6
namespace Go.Proofs.Qxb6602318a.Pi
open Go.RowKit
open Go.Proofs.Qxb6602318a.Sd (hide vi ret_bool wrap_in Fits rowIs_below)
attribute [local go_sem] Go.wp_at_zero Go.wp_at_succ

/-- putIn, plainly. -/
def putIn (rs : List (List ByteArray)) (i p : Nat) (id : ByteArray) : List (List ByteArray) :=
  if (ins (rs.getD i []) p id).length ≤ 256 then rs.take i ++ ins (rs.getD i []) p id :: rs.drop (i + 1)
  else rs.take i ++ (ins (rs.getD i []) p id).take ((ins (rs.getD i []) p id).length / 2) :: (ins (rs.getD i []) p id).drop ((ins (rs.getD i []) p id).length / 2) :: rs.drop (i + 1)
theorem zero9 : ∀ w, (zeroValue 9).run Try.prog w = .ok (.string ByteArray.empty) w := fun _ => by kernel_rfl

set_option maxRecDepth 100000 in
set_option maxHeartbeats 4000000 in
theorem putIn45 (Sb G n i p : Nat) (rs : List (List ByteArray)) (V : Nat → Value) (id : ByteArray) (w : World) (hrs : rs.length = n) (hn : n ≤ 65536) (hi : i < n) (hp : p ≤ (rs.getD i []).length) (hl : (rs.getD i []).length ≤ 65536) (h : Set0 w Sb G n rs V) :
    Calls Try.prog 45 #[.pointer (some ⟨Sb, 0, none⟩), .int .i64 i, .int .i64 p, .string id] w fun e w' => e = .returned (.bool (decide (256 < (rs.getD i []).length + 1))) ∧ PutPost w w' Sb G (putIn rs i p id) := by
  obtain ⟨RS, hRS⟩ : ∃ RS, RS = putIn rs i p id := ⟨_, rfl⟩
  rw [← hRS]
  unfold putIn at hRS
  obtain ⟨i0, hi0, hz0, hz1, hz2⟩ := info_parts Sd.Try.info9
  have c1 := h.field
  have c2 := h.outer.cell hi
  have hGS := h.GS
  have hSlt := cell_lt c1
  obtain ⟨a, hVi, hrow⟩ := h.rows i hi
  rw [hVi] at c2
  obtain ⟨ss, hss⟩ : ∃ ss, ss = rs.getD i [] := ⟨_, rfl⟩
  rw [← hss] at hp hl c2 hrow hRS ⊢
  rw [ins_length ss p id hp] at hRS
  have Hss := hide hss
  have HVi := hide hVi
  clear hss hVi
  obtain ⟨l, hll⟩ : ∃ l, l = ss.length := ⟨_, rfl⟩
  have hrow2 : ∀ ad, a = some ad → ∀ j, j < l → w.cell? (ad.add j) = some (.string (ss.getD j ByteArray.empty)) := by
    intro ad had j hj
    obtain ⟨b, _, _, hb, hr⟩ := hrow (by omega)
    rw [hb] at had
    obtain rfl := Option.some.inj had
    rw [Addr.add_lit, Nat.zero_add]
    exact hr.cell (by omega)
  have hnil : a = none → l = 0 ∧ l = 0 := by
    intro e
    rcases Nat.lt_or_ge 0 l with h' | h'
    · obtain ⟨b, _, _, hb, _⟩ := hrow (by omega)
      rw [hb] at e; cases e
    · omega
  rw [← hll] at hp hl c2 hRS ⊢
  have HRS := hide hRS
  clear hRS
  have Hll := hide hll
  have Hrow2 := hide hrow2
  have Hnil := hide hnil
  have HS := hide h
  have hn0 : ((n : Int) == 0) = false := by rw [beq_eq_false_iff_ne]; omega
  clear hll hrow2 hnil hrow h
  go_enter Try.func45, Try.ntmps45
  go_upto_region 4 with fail
  go_cut [9] from 12 (fun r wc => ∃ g cap L, r = .slice (some ⟨g, 0, none⟩) (l + 1) cap ∧ Run2 w wc g cap l L ss)
  case first =>
    by_cases h256 : l ≤ 256
    · have H51 := hide (own51 a l ss w l Hll.out.symm (by omega) h256 Hnil.out Hrow2.out)
      go_wp2_with fail
      refine H51.out.mono ?_
      rintro e w1 ⟨⟨v1, rfl, hown1⟩, hb1⟩
      rw [← Hll.out] at hown1
      have hb1s := hb1.size
      go_wp2_with (first | (at_builtin; refine wpList_append_lies _ rfl _ _ 27 rfl w.heap.size 9 i0 _ 1 16 Try.underlying27 hi0 hz0 hz1 hz2 rfl (by decide) v1 l (strs ss) rfl (hown1.alloc _) ⟨w1.heap.size, 0, none⟩ 1 1 [.string ByteArray.empty] rfl rfl ?_ ?_ (by decide) ?_ ?_ ?_ (w1.heap.size + 1) (by simp) ?_))
      · intro j u hj
        cases j with
        | zero => simp at hj; subst hj; simp [Addr.add]; rfl
        | succ j => simp at hj
      · intro u hu; simp at hu; subst hu; rfl
      · unfold maxLen; omega
      · omega
      · simp; omega
      intro g cap w2 hown hgrow hat hlt
      have hbel : Below w.heap.size w w2 := (hb1.alloc hb1s _).grown hgrow (by simp; omega) (fun k e => by
        rcases hown1.2 with ⟨rfl, _⟩ | ⟨g', cap', cur, rfl, hb', _⟩
        · simp [Value.ownBlock] at e
        · simp [Value.ownBlock] at e; omega)
      obtain ⟨L, hR⟩ := Run2.of hbel Hll.out.symm (Nat.le_refl _) hown
      clear hown hgrow hat hlt hown1 hb1 hb1s H51 hbel
      go_wp2
      go_meet
      case rel => exact ⟨g, cap, L, rfl, hR⟩
    · have H51 := hide (own51_big a l l w h256)
      go_wp2_with fail
      refine H51.out.mono ?_
      rintro e w1 ⟨rfl, rfl⟩
      go_wp2_with (first | (at_builtin; refine wpList_append_grows _ rfl _ _ 27 rfl 9 i0 _ 1 16 Try.underlying27 hi0 hz0 hz1 hz2 rfl (by decide) a l l (strs ss) rfl ?_ ?_ ?_ ⟨w.heap.size, 0, none⟩ 1 1 [.string ByteArray.empty] rfl rfl ?_ ?_ ?_ ?_ ?_ ?_))
      · exact Hnil.out
      · simp [strs, Hll.out]
      · intro b hb j u hj
        exact Sd.cell_al _ (strs_cell (by rw [← Hll.out]; exact Hrow2.out b hb) j u hj)
      · intro j u hj
        cases j with
        | zero => simp at hj; subst hj; simp [Addr.add]; rfl
        | succ j => simp at hj
      · intro u hu; simp at hu; subst hu; rfl
      · omega
      · unfold maxLen; omega
      · omega
      intro v' w2 hown hgrow
      obtain ⟨g, cap, rfl, _, _⟩ := hown.form (by omega)
      have hbel : Below w.heap.size w w2 := ((Below.refl _ _).alloc (Nat.le_refl _) _).grown hgrow (by simp) (fun k e => by cases e)
      obtain ⟨L, hR⟩ := Run2.of hbel Hll.out.symm (by simp) hown
      clear hown hgrow H51 hbel
      go_wp2
      go_meet
      case rel => exact ⟨g, cap, L, rfl, hR⟩
  case rest =>
    obtain ⟨g, cap, L, rfl, hR⟩ := hcut
    obtain ⟨w2, rfl⟩ : ∃ w2, w2 = wc := ⟨wc, rfl⟩
    have hfit := hR.fit
    have hgw := hR.gw
    obtain ⟨w4, hA, hB, hR3⟩ := hR.copies Hll.out.symm hp
    have HA := hide hA
    have HB := hide hB
    clear hR hA hB
    go_upto_region 5 with fail
    go_cut [9] from 12 (fun r wc => r = .slice (some ⟨g, 0, none⟩) (l + 1) cap ∧ wc = w4)
    case first =>
      have b1 : (0 : Int) ≤ (p : Int) := by omega
      have b3 : ((l + 1 : Nat) : Int) ≤ (cap : Int) := by omega
      have b4 : (p : Int) + 1 ≤ ((l + 1 : Nat) : Int) := by omega
      have b5 : (0 : Int) ≤ (p : Int) + 1 := by omega
      have b6 : (p : Int) ≤ (l : Int) + 1 := by omega
      have b7 : p ≤ l + 1 := by omega
      have hwr : IntKind.i64.wrap ((p : Int) + 1) = (p : Int) + 1 := wrap_in _ (by omega) (by omega)
      have hcp : ¬ cap = p := by omega
      by_cases hcap : cap = p + 1
      · have hrun := HA.out hcap
        have hcT : (cap = p + 1) = True := eq_true hcap
        clear HA HB hcap
        go_region_held3 (fun _ => True) (trivial) (fail)
        go_wp2
        go_meet
        case rel => exact ⟨rfl, rfl⟩
      · have hrun := HB.out hcap
        clear HA HB
        go_region_held3 (fun _ => True) (trivial) (fail)
        go_wp2
        go_meet
        case rel => exact ⟨rfl, rfl⟩
    case rest =>
      obtain ⟨rfl, hwc⟩ := hcut
      subst hwc
      have hbel := hR3.bel
      have s1 : wc.cell? ⟨Sb, 0, none⟩ = _ := (hbel.cell (p := ⟨Sb, 0, none⟩) hSlt).trans c1
      have s2 : wc.cell? ⟨G, i, none⟩ = _ := (hbel.cell (p := ⟨G, i, none⟩) (by show G < w.heap.size; omega)).trans c2
      have s3 : wc.frozen? ⟨G, i, none⟩ = false := (hbel.frozen (p := ⟨G, i, none⟩) (by show G < w.heap.size; omega)).trans (HS.out.outer.frozen i)
      obtain ⟨v0, s4, s5⟩ : ∃ v0, wc.cell? ⟨g, p, none⟩ = some v0 ∧ wc.frozen? ⟨g, p, none⟩ = false := by
        obtain ⟨L', h1, h2, _⟩ := hR3.row
        exact ⟨_, by rw [cell_list h1, List.getElem?_eq_getElem (by omega)], free_list h1 p⟩
      have n1 : g ≠ Sb := by omega
      have n2 : g ≠ G := by omega
      have ip : (p : Int) < (l : Int) + 1 := by omega
      have ii : (i : Int) < (n : Int) := by omega
      have H5 := hide (hR3.store Hll.out.symm hp id)
      clear hR3 hbel HA HB c1 c2 hi0 hz0 hz1 hz2
      have hrl : Hid ((ins ss p id).length = l + 1) := by show _ = _; rw [ins_length ss p id (by rw [← Hll.out]; exact hp), ← Hll.out]
      by_cases h257 : l + 1 ≤ 256
      · have hq : (l : Int) + 1 ≤ 256 := by omega
        have hd : decide (256 < l + 1) = false := decide_eq_false (by omega)
        have hRS := HRS.out
        rw [if_pos h257] at hRS
        have HRS2 := hide hRS
        clear hRS
        go_wp2
        go_ret
        refine ⟨ret_bool hd.symm, ?_⟩
        rw [HRS2.out]
        have := put_small HS.out hrs hi H5.out
        rw [hrl.out] at this
        exact this
      · have hq : ¬ (l : Int) + 1 ≤ 256 := by omega
        have hd : decide (256 < l + 1) = true := decide_eq_true (by omega)
        have hRS := HRS.out
        rw [if_neg h257] at hRS
        obtain ⟨hf, hhf⟩ : ∃ hf, hf = (l + 1) / 2 := ⟨_, rfl⟩
        rw [← hhf] at hRS
        have HRS2 := hide hRS
        clear hRS
        have e1 : ((l : Int) + 1) / 2 = (hf : Int) := by omega
        have hq2 : (hf : Int) ≤ (l : Int) + 1 := by omega
        have hq4 : (l : Int) + 1 ≤ (cap : Int) := by omega
        have hq3 : ¬ cap = hf := by omega
        have hq5 : hf < l + 1 := by omega
        have hq6 : 0 < hf := by omega
        clear hhf
        obtain ⟨rr, hrr⟩ : ∃ rr, rr = ins ss p id := ⟨_, rfl⟩
        rw [← hrr] at H5 hrl HRS2
        clear hrr
        go_wp2_with fail
        obtain ⟨w5, hw5⟩ : ∃ w5, w5 = wc.setCell ⟨g, p, none⟩ (.string id) := ⟨_, rfl⟩
        rw [← hw5] at H5 ⊢
        clear hw5 s1 s2 s3 s4 s5
        have hdl : (rr.drop hf).length = l + 1 - hf := by rw [List.length_drop, hrl.out]
        refine (new50 (some ⟨g, hf, none⟩) (cap - hf) (rr.drop hf) w5 (l + 1 - hf) hdl (by omega) (fun h => by cases h) (fun ad had j hj => by
          obtain rfl := Option.some.inj had
          rw [Addr.add_lit, H5.out.cell (by rw [hrl.out]; omega)]
          simp)).mono ?_
        rintro e w6 ⟨⟨v6, rfl, o6⟩, hb6⟩
        have hgl5 := H5.out.lt
        have h5s := H5.out.bel.size
        obtain ⟨g6, cap6, rfl, hg6, hg6'⟩ := o6.form (by rw [hdl]; omega)
        have HO6 := hide o6
        clear o6
        obtain ⟨L, hL1, hL2, _⟩ := H5.out.row
        have hL6 : w6.heap[g]? = some (.cells L.toArray 9 (0, 0)) := (hb6.block g hgl5).trans hL1
        have hclr := fun ty => Lib.run_clear_slice (P := Try.prog) w6 27 9 ty (.string ByteArray.empty) Try.underlying27 zero9 rfl rfl g hf (l + 1 - hf) (cap - hf) (by omega) (fun j hj => by rw [cell_list hL6, List.getElem?_eq_getElem (by omega)]; rfl) (fun j hj => free_list hL6 _)
        obtain ⟨w7, hw7⟩ : ∃ w7, w7 = w6.setCells g hf (List.replicate (l + 1 - hf) (.string ByteArray.empty)) := ⟨_, rfl⟩
        rw [← hw7] at hclr
        have hb7 : ∀ b, b < w.heap.size → w7.heap[b]? = w.heap[b]? := fun b hb => by
          rw [hw7, setCells_far (show b ≠ g by omega), hb6.block b (by omega), H5.out.bel.block b hb]
        have t1 : w7.cell? ⟨Sb, 0, none⟩ = some (.slice (some ⟨G, 0, none⟩) n n) := by rw [World.cell?_of_block (w := w) (a := ⟨Sb, 0, none⟩) (hb7 Sb hSlt)]; exact HS.out.field
        have t2 : w7.cell? ⟨G, i, none⟩ = some (V i) := by rw [World.cell?_of_block (w := w) (a := ⟨G, i, none⟩) (hb7 G (by omega))]; exact HS.out.outer.cell hi
        have t3 : w7.frozen? ⟨G, i, none⟩ = false := by rw [World.frozen?_of_block (w := w) (a := ⟨G, i, none⟩) (hb7 G (by omega))]; exact HS.out.outer.frozen i
        have HB7 := hide hb7
        have HW7 := hide hw7
        clear hL6 hb7 hw7 hL1 hL2
        have nGS : G ≠ Sb := by omega
        have hq7 : (hf : Int) ≤ (cap : Int) := by omega
        have hq8 : (0 : Int) ≤ (hf : Int) := by omega
        have hii : (0 : Int) ≤ (i : Int) := by omega
        generalize V i = vi0 at t2
        go_wp2
        go_region_held3 (fun w' => w'.cell? ⟨Sb, 0, none⟩ = some (.slice (some ⟨G, 0, none⟩) n n)) (first | (go_keep; done)) (fail)
        go_wp2_with fail
        rw [show ((i : Int) + 1) = ((i + 1 : Nat) : Int) from by omega]
        obtain ⟨w8, hw8⟩ : ∃ w8, w8 = (w7.setCell ⟨G, i, none⟩ (.slice (some ⟨g, 0, none⟩) hf cap)).drew := ⟨_, rfl⟩
        rw [← hw8]
        have hK8 : KeepBut G w7 w8 := by
          have hks := KeepBut.set (S := G) (w := w7) i (.slice (some ⟨g, 0, none⟩) hf cap)
          rw [hw8]; exact ⟨hks.os, hks.tape, hks.output, hks.size, hks.block⟩
        have u1 : w8.cell? ⟨Sb, 0, none⟩ = some (.slice (some ⟨G, 0, none⟩) n n) := by
          rw [World.cell?_of_block (w := w7) (a := ⟨Sb, 0, none⟩) (hK8.block Sb (cell_lt t1) nGS.symm)]; exact t1
        have u2 : w8.frozen? ⟨Sb, 0, none⟩ = false := by
          rw [World.frozen?_of_block (w := w7) (a := ⟨Sb, 0, none⟩) (hK8.block Sb (cell_lt t1) nGS.symm), World.frozen?_of_block (w := w) (a := ⟨Sb, 0, none⟩) (HB7.out Sb hSlt)]; exact HS.out.ffree
        have u3 : w8.rowIs G 27 n (upd V i (.slice (some ⟨g, 0, none⟩) hf cap)) := by
          rw [hw8]
          exact ((HS.out.outer.of_block (HB7.out G (by omega))).set i (.slice (some ⟨g, 0, none⟩) hf cap)).drew
        refine (insert49 Sb (i + 1) (some ⟨G, 0, none⟩) (outerList n (upd V i (.slice (some ⟨g, 0, none⟩) hf cap))) (some ⟨g6, 0, none⟩) (l + 1 - hf) cap6 w8 n (outerList_length _ _) hn (by omega) u1 u2 (fun h => by cases h) (fun ad had j u hj => by
          obtain rfl := Option.some.inj had
          obtain ⟨hjn, rfl⟩ := outerList_get hj
          rw [Addr.add_lit, Nat.zero_add]
          exact u3.cell hjn) (fun v hv => by
          obtain ⟨j, hj⟩ := List.mem_iff_getElem?.1 hv
          obtain ⟨hjn, rfl⟩ := outerList_get hj
          unfold upd
          split
          · rfl
          · obtain ⟨a', hV', _⟩ := HS.out.rows j hjn
            rw [hV']; rfl)).mono ?_
        rintro e w9 ⟨rfl, hI⟩
        have hfin : PutPost w w9 Sb G RS := by
          rw [HRS2.out]
          refine put_split HS.out hrs hi H5.out (by rw [hrl.out]; omega) hb6 HO6.out (by rw [List.length_take, hrl.out]; omega) (by rw [hrl.out, ← HW7.out]; exact hK8) ?_
          rw [hdl]
          exact hI
        have HFin := hide hfin
        clear hfin hI u1 u2 u3 hK8 hw8
        go_wp2
        go_ret
        exact ⟨ret_bool hd.symm, HFin.out⟩
end Go.Proofs.Qxb6602318a.Pi
