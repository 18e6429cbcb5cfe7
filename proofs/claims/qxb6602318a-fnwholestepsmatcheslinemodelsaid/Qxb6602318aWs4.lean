import Derived.Test.Qxb6602318aWs3
import Derived.Deep.OwnRows
namespace Go.Proofs.Qxb6602318a.Ws
open Go.RowKit

theorem Try.info5 : (Try.prog.info? 5).map (fun i => (i.zero, i.size, i.bytes)) = some (some (.int .u8 0), 1, 1) := by kernel_rfl
theorem Try.size5 : (Try.prog.info? 5).map (·.size) = some 1 := by kernel_rfl

/-- 'zzc := make([]byte, n); copy(zzc, text)': the run of the copy, the world behind it under a name. -/
theorem copy_run (x : Addr) (n c : Nat) (xs : List Int) (w : World) (hx : xs.length = n)
    (hc : ∀ i, i < n → w.cell? (x.add i) = some (.int .u8 (xs.getD i 0))) :
    ∃ w1, (Builtin.copy_ #[22, 22] 3 #[.slice (some ⟨w.heap.size, 0, none⟩) n n, .slice (some x) n c]).run Try.prog (w.alloc (.cells (madeCells #[.int .u8 0] n) 5)) = .ok (.int .i64 n) w1 ∧
      (∀ i, i < n → w1.cell? ⟨w.heap.size, 0 + i, none⟩ = some (.int .u8 (xs.getD i 0))) ∧ Below w.heap.size w w1 ∧ w.heap.size < w1.heap.size := by
  have hg : (w.alloc (.cells (madeCells #[.int .u8 0] n) 5)).heap[w.heap.size]? = some (.cells (madeCells #[.int .u8 0] n) 5 (0, 0)) := by
    show (w.heap.push _)[w.heap.size]? = _
    simp
  have hbase : Below w.heap.size w (w.alloc (.cells (madeCells #[.int .u8 0] n) 5)) := (Below.refl _ _).alloc (Nat.le_refl _) _
  have hrun := run_copy_row Try.prog (w.alloc (.cells (madeCells #[.int .u8 0] n) 5)) 22 22 3 5 w.heap.size 0 n n x n c (madeCells #[.int .u8 0] n) 5 (xs.map (Value.int .u8))
    Try.underlying22 Try.size5 hg (by simp [hx]) (fun j v hj => by
      have hjl : j < n := by
        have := (List.getElem?_eq_some_iff.1 hj).1
        simpa [hx] using this
      refine Lib.cell?_alloc_marked _ ?_
      rw [hc j hjl]
      simp [List.getElem?_eq_getElem (show j < xs.length by omega)] at hj
      subst hj
      simp [List.getD, List.getElem?_eq_getElem (show j < xs.length by omega)]) (by simp [hx, size_madeCells]) (by
      intro v hv
      obtain ⟨_, _, rfl⟩ := List.mem_map.1 hv
      rfl)
  have en : goInt ((xs.map (Value.int .u8)).length : Nat) = .int .i64 n := by rw [List.length_map, hx]; rfl
  rw [en] at hrun
  refine ⟨_, hrun, fun i hi => ?_, below_setRow hbase (Nat.le_refl _) _, by simp⟩
  rw [cell_setRow_same _ _ _ _ _ _ _ hg]
  have hd : (madeCells #[.int .u8 0] n).toList.drop (0 + (xs.map (Value.int .u8)).length) = [] := by
    apply List.drop_eq_nil_of_le
    simp [size_madeCells, hx]
  rw [hd]
  simp [List.getElem?_eq_getElem (show i < xs.length by omega)]

theorem bytes16 (a : Option Addr) (n c : Nat) (w : World) (hn : n ≤ 1048576) : Calls Try.prog 16 #[.slice a n c] w fun e w' => e = .returned (.bool true) ∧ w = w' := by
  have h1 : ¬ (1048576 : Int) < (n : Int) := by omega
  go_enter Try.func16, Try.ntmps16
  go_wp2
  go_ret
  exact ⟨rfl, rfl⟩
theorem bytes16_big (a : Option Addr) (n c : Nat) (w : World) (hn : ¬ n ≤ 1048576) : Calls Try.prog 16 #[.slice a n c] w fun e w' => e = .returned (.bool false) ∧ w = w' := by
  have h1 : (1048576 : Int) < (n : Int) := by omega
  go_enter Try.func16, Try.ntmps16
  go_wp2
  go_ret
  exact ⟨rfl, rfl⟩

/-- The journal's header and the outcome's mark, as the program's text has them. -/
def headerS : ByteArray := ⟨#[97, 100, 109, 105, 116, 45, 115, 99, 101, 110, 97, 114, 105, 111, 58, 32, 49, 10, 115, 116, 101, 112, 115, 58, 10]⟩
def outcomeS : ByteArray := ⟨#[32, 32, 35, 32, 111, 117, 116, 99, 111, 109, 101, 58, 32]⟩
theorem nums_header : nums headerS = header := by decide
theorem nums_outcome : nums outcomeS = outcome := by decide

theorem cells_below {g n : Nat} {xs : List Int} {w w' : World} (hb : Below w.heap.size w w') (hg : g < w.heap.size) (hc : ∀ i, i < n → w.cell? ⟨g, 0 + i, none⟩ = some (.int .u8 (xs.getD i 0))) :
    ∀ i, i < n → w'.cell? ⟨g, 0 + i, none⟩ = some (.int .u8 (xs.getD i 0)) := fun i hi => (hb.cell (p := ⟨g, 0 + i, none⟩) hg).trans (hc i hi)

set_option maxHeartbeats 400000 in
theorem cuts_no (x : Addr) (n c : Nat) (xs : List Int) (w : World) (hx : xs.length = n) (hn : n ≤ 1048576)
    (hc : ∀ i, i < n → w.cell? (x.add i) = some (.int .u8 (xs.getD i 0))) (bx : ∀ x ∈ xs, 0 ≤ x ∧ x ≤ 255) (hp : pfx xs header = false) :
    Calls Try.prog 5 #[.slice (some x) n c] w fun e w' => e = .returned (.bool true) ∧ Below w.heap.size w w' := by
  have hmk := run_make_row' (P := Try.prog) 22 5 (.int .u8 0) 1 Try.underlying22 Try.info5 rfl .i64 .i64 n (by omega) (by omega)
  obtain ⟨w1, hrun, hc1, hB1, hlt⟩ := copy_run x n c xs w hx hc
  have C1 := zz_any w.heap.size 0 n n xs w1 hx hn (Nat.le_refl _) hc1 bx
  have hs : stepsOf xs = n := by rw [stepsOf, if_neg (by simp [hp]), hx]
  rw [hs] at C1
  have H1 := hide C1
  have hH := hide hc1
  have hP : Hid (bw xs 0 n (nums headerS) = false) := by show _ = _; rw [nums_header, ← hp, pfx_bw0, hx]
  have hn' : ¬ (1048576 : Int) < (n : Int) := by omega
  clear hc hc1 C1 hs hp
  go_enter Try.func5, Try.ntmps5
  go_wp2_with (go_at_call 16; refine (bytes16 _ _ _ _ hn).mono ?_; rintro e w' ⟨rfl, rfl⟩)
  refine H1.out.mono ?_
  rintro e w2 ⟨rfl, hB2⟩
  have H2 := begins_any w.heap.size 0 n n xs 0 n 0 n headerS w2 hx hn (cells_below hB2 hlt hH.out) rfl rfl (Nat.le_refl _) (by omega) (by decide)
  rw [hP.out] at H2
  have H2' := hide H2
  clear H2
  go_wp2_with fail
  refine H2'.out.mono ?_
  rintro e w3 ⟨rfl, q, rfl⟩
  go_wp2
  go_ret
  exact ⟨rfl, below_drewN (hB1.trans (hB2.mono (Nat.le_of_lt hlt))) q⟩

theorem vi {a b : Int} (h : a = b) : Value.int .i64 a = .int .i64 b := by rw [h]
/-- The last break from R on, below k; -1 where there is none. -/
def LB (xs : List Int) (R k : Nat) : Int := if cnt xs R k = 0 then -1 else lastTo xs 10 k
theorem LB_hit (xs : List Int) (R k : Nat) (hR : R ≤ k) (h : xs.getD k 0 = 10) : cnt xs R (k + 1) = cnt xs R k + 1 ∧ LB xs R (k + 1) = k := by
  have e : cnt xs R (k + 1) = cnt xs R k + 1 := by simp only [cnt, if_pos (And.intro hR h)]
  exact ⟨e, by rw [LB, if_neg (by omega), lastTo, if_pos h]⟩
theorem LB_miss (xs : List Int) (R k : Nat) (h : ¬ xs.getD k 0 = 10) : cnt xs R (k + 1) = cnt xs R k ∧ LB xs R (k + 1) = LB xs R k := by
  have e : cnt xs R (k + 1) = cnt xs R k := by simp only [cnt, if_neg (fun e : R ≤ k ∧ _ => h e.2), Nat.add_zero]
  exact ⟨e, by rw [LB, LB, e, lastTo, if_neg h]⟩

set_option maxHeartbeats 1000000 in
theorem cuts_yes (x : Addr) (n c : Nat) (xs : List Int) (w : World) (hx : xs.length = n) (hn : n ≤ 1048576)
    (hc : ∀ i, i < n → w.cell? (x.add i) = some (.int .u8 (xs.getD i 0))) (bx : ∀ x ∈ xs, 0 ≤ x ∧ x ≤ 255) (hp : pfx xs header = true) :
    Calls Try.prog 5 #[.slice (some x) n c] w fun e w' => e = .returned (.bool true) ∧ Below w.heap.size w w' := by
  have hmk := run_make_row' (P := Try.prog) 22 5 (.int .u8 0) 1 Try.underlying22 Try.info5 rfl .i64 .i64 n (by omega) (by omega)
  obtain ⟨w1, hrun, hc1, hB1, hlt⟩ := copy_run x n c xs w hx hc
  have C1 := zz_any w.heap.size 0 n n xs w1 hx hn (Nat.le_refl _) hc1 bx
  obtain ⟨R, hs, hR1, hR2, hR3, hfin⟩ := cut_law xs hp
  rw [hs] at C1
  rw [hx] at hR2 hfin
  have H1 := hide C1
  have hH := hide hc1
  have hP : Hid (bw xs 0 n (nums headerS) = true) := by show _ = _; rw [nums_header, ← hp, pfx_bw0, hx]
  have HR3 := hide hR3
  have HF := hide hfin
  have hn' : ¬ (1048576 : Int) < (n : Int) := by omega
  clear hc hc1 C1 hs hp hR3 hfin
  go_enter Try.func5, Try.ntmps5
  go_wp2_with (go_at_call 16; refine (bytes16 _ _ _ _ hn).mono ?_; rintro e w' ⟨rfl, rfl⟩)
  refine H1.out.mono ?_
  rintro e w2 ⟨rfl, hB2⟩
  have hc2 := cells_below hB2 hlt hH.out
  have H2 := begins_any w.heap.size 0 n n xs 0 n 0 n headerS w2 hx hn hc2 rfl rfl (Nat.le_refl _) (by omega) (by decide)
  rw [hP.out] at H2
  have H2' := hide H2
  have hcR := hc2 (R - 1) (by omega)
  rw [HR3.out] at hcR
  have hH2 := hide hc2
  clear H2 hc2
  go_wp2_with fail
  refine H2'.out.mono ?_
  rintro e w3 ⟨rfl, q, rfl⟩
  have hR1' : ¬ (R : Int) < 25 := by omega
  have hR2' : ¬ (n : Int) < R := by omega
  have et : ((R : Int) - 1).toNat = R - 1 := by omega
  rw [Nat.zero_add] at hcR
  have hd1 : decide ((1048576 : Int) < (n : Int)) = false := decide_eq_false (by omega)
  have hd2 : decide ((R : Int) < 25) = false := decide_eq_false (by omega)
  have hd3 : decide ((n : Int) < (R : Int)) = false := decide_eq_false (by omega)
  go_wp2
  clear hn' hR1' hR2'
  go_loop [5, 6, 7] (fun br lb i => ∃ k : Nat, R ≤ k ∧ k ≤ n ∧ i = .int .i64 k ∧ br = .int .i64 (cnt xs R k : Nat) ∧ lb = .int .i64 (LB xs R k)) (fun _ _ i => n - (intOf i).toNat)
  case atStart => exact ⟨R, Nat.le_refl _, hR2, rfl, by rw [cnt_zero xs R R (fun j a b => by omega)]; rfl, by rw [LB, cnt_zero xs R R (fun j a b => by omega)]; rfl⟩
  case round =>
    obtain ⟨k, hk1, hk2, rfl, rfl, rfl⟩ := hrel
    have hcl := cnt_le xs R k
    by_cases hkn : k < n
    · have hcell := hH2.out k hkn
      rw [Nat.zero_add] at hcell
      by_cases hz : xs.getD k 0 = 10
      · have Hz := hide (LB_hit xs R k hk1 hz)
        rw [hz] at hcell
        clear hz
        go_wp2
        go_round
        case rel => exact ⟨k + 1, by omega, by omega, by go_num, vi (by rw [Hz.out.1]; omega), vi (by rw [Hz.out.2])⟩
        case measure => simp [intOf]; omega
      · have Hz := hide (LB_miss xs R k hz)
        obtain ⟨z, hzz⟩ : ∃ z, xs.getD k 0 = z := ⟨_, rfl⟩
        rw [hzz] at hcell hz
        have hz' : (z == 10) = false := by simpa using hz
        clear hz hzz
        go_wp2
        go_round
        case rel => exact ⟨k + 1, by omega, by omega, by go_num, vi (by rw [Hz.out.1]), vi (by rw [Hz.out.2])⟩
        case measure => simp [intOf]; omega
    · obtain rfl : k = n := by omega
      rcases HF.out with h0 | ⟨h1, lb, hl1, hl2, hl3⟩
      · rw [h0]
        generalize LB xs R k = l at *
        clear hH2 hH
        go_wp2
        go_ret
        exact ⟨rfl, below_drewN (hB1.trans (hB2.mono (Nat.le_of_lt hlt))) q⟩
      · have hLB : LB xs R k = lb := by rw [LB, if_neg (by omega), hl1]
        rw [h1, hLB]
        have H3 := begins_any w.heap.size 0 k k xs R (lb + 1) R (lb + 1) outcomeS (w2.drewN q) hx hn hH2.out rfl (by omega) (by omega) (by omega) (by decide)
        rw [nums_outcome, hl3] at H3
        have H3' := hide H3
        clear H3 hLB hl1 hl3 h1
        go_wp2_with fail
        refine H3'.out.mono ?_
        rintro e w4 ⟨rfl, q2, rfl⟩
        go_wp2
        go_ret
        exact ⟨rfl, below_drewN (hB1.trans (hB2.mono (Nat.le_of_lt hlt))) (q + q2)⟩

set_option maxHeartbeats 400000 in
theorem cuts_big (a : Option Addr) (n c : Nat) (w : World) (hn : ¬ n ≤ 1048576) :
    Calls Try.prog 5 #[.slice a n c] w fun e w' => e = .returned (.bool true) ∧ Below w.heap.size w w' := by
  go_enter Try.func5, Try.ntmps5
  go_wp2_with (go_at_call 16; refine (bytes16_big _ _ _ _ hn).mono ?_; rintro e w' ⟨rfl, rfl⟩)
  go_ret
  exact ⟨rfl, Below.refl _ _⟩

set_option maxHeartbeats 400000 in
theorem cuts_nil (w : World) :
    Calls Try.prog 5 #[.slice none 0 0] w fun e w' => e = .returned (.bool true) ∧ Below w.heap.size w w' := by
  have kc := fun (w : World) (C : Array Value) (n c : Nat) => Lib.run_convert_bytes_const (P := Try.prog) w 22 5 C n c Try.underlying22 Try.underlying5
  go_enter Try.func5, Try.ntmps5
  go_wp2
  go_ret
  exact ⟨rfl, (Below.refl _ _).alloc (Nat.le_refl _) _⟩

theorem cuts_any (x : Addr) (len cap : Nat) (zs : List Int) (w : World) (hn : len ≤ 1048576) (hl : len ≤ cap) (hz : zs.length = cap)
    (hcell : ∀ i, i < zs.length → w.cell? (x.add i) = some (.int .u8 (zs.getD i 0))) (bx : ∀ x ∈ zs, 0 ≤ x ∧ x ≤ 255) :
    Calls Try.prog 5 #[.slice (some x) len cap] w fun e w' => e = .returned (.bool true) ∧ Below w.heap.size w w' := by
  have hlen : (zs.take len).length = len := by simp; omega
  have hc : ∀ i, i < len → w.cell? (x.add i) = some (.int .u8 ((zs.take len).getD i 0)) := fun i hi => by rw [hcell i (by omega)]; simp [hi]
  have bt : ∀ x ∈ zs.take len, 0 ≤ x ∧ x ≤ 255 := fun x h => bx x (List.mem_of_mem_take h)
  by_cases hp : pfx (zs.take len) header = true
  · exact cuts_yes x len cap (zs.take len) w hlen hn hc bt hp
  · exact cuts_no x len cap (zs.take len) w hlen hn hc bt (by simpa using hp)

end Go.Proofs.Qxb6602318a.Ws
