import Derived.Test.Qxb6602318aWs4
namespace Go.Proofs.Qxb6602318a.Ws
open Go.RowKit

/-- The length of the whole lines among the first k places. -/
def whN (xs : List Int) (k : Nat) : Nat := (lastTo xs 10 k + 1).toNat
/-- Where the last whole line among the first k places begins. -/
def laN (xs : List Int) (k : Nat) : Nat := if whN xs k = 0 then 0 else whN xs (whN xs k - 1)
theorem whN_le (xs : List Int) (k : Nat) : whN xs k ≤ k := by
  have := lastTo_hi xs 10 k; unfold whN; omega
theorem laN_le (xs : List Int) (k : Nat) : laN xs k ≤ k := by
  unfold laN
  split
  · omega
  · have := whN_le xs k; have := whN_le xs (whN xs k - 1); omega
theorem whN_hit (xs : List Int) (k : Nat) (h : xs.getD k 0 = 10) : whN xs (k + 1) = k + 1 ∧ laN xs (k + 1) = whN xs k := by
  have e : whN xs (k + 1) = k + 1 := by unfold whN; rw [lastTo, if_pos h]; omega
  refine ⟨e, ?_⟩
  unfold laN
  rw [e, if_neg (by omega)]
  rfl
theorem whN_miss (xs : List Int) (k : Nat) (h : ¬ xs.getD k 0 = 10) : whN xs (k + 1) = whN xs k ∧ laN xs (k + 1) = laN xs k := by
  have e : whN xs (k + 1) = whN xs k := by unfold whN; rw [lastTo, if_neg h]
  exact ⟨e, by unfold laN; rw [e]⟩
theorem wh_laN (xs : List Int) (hp : pfx xs header = true) : whN xs xs.length = wh xs ∧ laN xs xs.length = la xs := by
  have e : whN xs xs.length = wh xs := rfl
  refine ⟨e, ?_⟩
  obtain ⟨w1, _⟩ := wh_facts xs hp
  unfold laN
  rw [e, if_neg (by omega)]
  unfold whN la
  rw [lastTo_take xs 10 _ _ (Nat.le_refl _)]

set_option maxHeartbeats 400000 in
theorem model_no (b off n c : Nat) (xs : List Int) (w : World) (hx : xs.length = n) (hn : n ≤ 1048576)
    (hc : ∀ i, i < n → w.cell? ⟨b, off + i, none⟩ = some (.int .u8 (xs.getD i 0))) (hp : pfx xs header = false) :
    Calls Try.prog 13 #[.slice (some ⟨b, off, none⟩) n c] w fun e w' => e = .returned (.int .i64 (stepsOf xs)) ∧ ∃ q, w' = w.drewN q := by
  have hs : stepsOf xs = n := by rw [stepsOf, if_neg (by simp [hp]), hx]
  rw [hs]
  have H := begins_any b off n c xs 0 n 0 n headerS w hx hn hc rfl rfl (Nat.le_refl _) (by omega) (by decide)
  rw [nums_header, ← hx, ← pfx_bw0, hp, hx] at H
  have H' := hide H
  clear H hs hp hc
  go_enter Try.func13, Try.ntmps13
  go_wp2_with fail
  refine H'.out.mono ?_
  rintro e w3 ⟨rfl, q, rfl⟩
  go_wp2
  go_ret
  exact ⟨rfl, q, rfl⟩

set_option maxHeartbeats 1000000 in
theorem model_yes (b off n c : Nat) (xs : List Int) (w : World) (hx : xs.length = n) (hn : n ≤ 1048576)
    (hc : ∀ i, i < n → w.cell? ⟨b, off + i, none⟩ = some (.int .u8 (xs.getD i 0))) (hp : pfx xs header = true) :
    Calls Try.prog 13 #[.slice (some ⟨b, off, none⟩) n c] w fun e w' => e = .returned (.int .i64 (stepsOf xs)) ∧ ∃ q, w' = w.drewN q := by
  have hwl := wh_laN xs hp
  have hla := (la_facts xs hp).2.1
  have hwh := (wh_facts xs hp).2.1
  rw [hx] at hwl hwh
  have hs : stepsOf xs = if bw xs (laN xs n) (whN xs n) outcome = true then (laN xs n : Int) else (whN xs n : Int) := by
    rw [stepsOf, if_pos hp, hwl.1, hwl.2, pfx_bw xs outcome _ _ (by omega) (by omega)]
  have HS := hide hs
  clear hs
  generalize stepsOf xs = S at *
  have H := begins_any b off n c xs 0 n 0 n headerS w hx hn hc rfl rfl (Nat.le_refl _) (by omega) (by decide)
  rw [nums_header, ← hx, ← pfx_bw0, hp, hx] at H
  have H' := hide H
  have hH := hide hc
  clear H hp hwl hla hwh hc
  go_enter Try.func13, Try.ntmps13
  go_wp2_with fail
  refine H'.out.mono ?_
  rintro e w3 ⟨rfl, q, rfl⟩
  go_wp2
  go_loop [3, 4, 5, 6] (fun ls ll wl i => ∃ k : Nat, k ≤ n ∧ i = .int .i64 k ∧ ls = .int .i64 (whN xs k : Nat) ∧ ll = .int .i64 (laN xs k : Nat) ∧ wl = .int .i64 (whN xs k : Nat)) (fun _ _ _ i => n - (intOf i).toNat)
  case atStart => exact ⟨0, Nat.zero_le _, rfl, rfl, rfl, rfl⟩
  case round =>
    obtain ⟨k, hk, rfl, rfl, rfl, rfl⟩ := hrel
    by_cases hkn : k < n
    · have hcell := hH.out k hkn
      by_cases hz : xs.getD k 0 = 10
      · have Hz := hide (whN_hit xs k hz)
        rw [hz] at hcell
        clear hz
        go_wp2
        go_round
        case rel => exact ⟨k + 1, by omega, by go_num, vi (by rw [Hz.out.1]; omega), vi (by rw [Hz.out.2]), vi (by rw [Hz.out.1]; omega)⟩
        case measure => simp [intOf]; omega
      · have Hz := hide (whN_miss xs k hz)
        obtain ⟨z, hzz⟩ : ∃ z, xs.getD k 0 = z := ⟨_, rfl⟩
        rw [hzz] at hcell hz
        have hz' : (z == 10) = false := by simpa using hz
        clear hz hzz
        go_wp2
        go_round
        case rel => exact ⟨k + 1, by omega, by go_num, vi (by rw [Hz.out.1]), vi (by rw [Hz.out.2]), vi (by rw [Hz.out.1])⟩
        case measure => simp [intOf]; omega
    · obtain rfl : k = n := by omega
      have h1 := whN_le xs k
      have h2 := laN_le xs k
      have H2 := begins_any b off k c xs (laN xs k) (whN xs k) (laN xs k) (whN xs k) outcomeS (w.drewN q) hx hn hH.out rfl rfl (by omega) (by omega) (by decide)
      rw [nums_outcome] at H2
      obtain ⟨r, hr⟩ : ∃ r, bw xs (laN xs k) (whN xs k) outcome = r := ⟨_, rfl⟩
      rw [hr] at H2
      have Hr := hide hr
      have H2' := hide H2
      clear H2 hr
      go_wp2_with fail
      refine H2'.out.mono ?_
      rintro e w4 ⟨rfl, q2, rfl⟩
      cases r
      all_goals
        go_wp2
        go_ret
        exact ⟨ret_int (by rw [HS.out, Hr.out]; rfl), q + q2, rfl⟩

theorem model_any (b off n c : Nat) (xs : List Int) (w : World) (hx : xs.length = n) (hn : n ≤ 1048576)
    (hc : ∀ i, i < n → w.cell? ⟨b, off + i, none⟩ = some (.int .u8 (xs.getD i 0))) :
    Calls Try.prog 13 #[.slice (some ⟨b, off, none⟩) n c] w fun e w' => e = .returned (.int .i64 (stepsOf xs)) ∧ ∃ q, w' = w.drewN q := by
  by_cases hp : pfx xs header = true
  · exact model_yes b off n c xs w hx hn hc hp
  · exact model_no b off n c xs w hx hn hc (by simpa using hp)

theorem bytes11 (a : Option Addr) (n c : Nat) (w : World) (hn : n ≤ 1048576) : Calls Try.prog 11 #[.slice a n c] w fun e w' => e = .returned (.bool true) ∧ w = w' := by
  have h1 : ¬ (1048576 : Int) < (n : Int) := by omega
  go_enter Try.func11, Try.ntmps11
  go_wp2
  go_ret
  exact ⟨rfl, rfl⟩
theorem bytes11_big (a : Option Addr) (n c : Nat) (w : World) (hn : ¬ n ≤ 1048576) : Calls Try.prog 11 #[.slice a n c] w fun e w' => e = .returned (.bool false) ∧ w = w' := by
  have h1 : (1048576 : Int) < (n : Int) := by omega
  go_enter Try.func11, Try.ntmps11
  go_wp2
  go_ret
  exact ⟨rfl, rfl⟩

set_option maxHeartbeats 400000 in
theorem match_core (x : Addr) (n c : Nat) (xs : List Int) (w : World) (hx : xs.length = n) (hn : n ≤ 1048576)
    (hc : ∀ i, i < n → w.cell? (x.add i) = some (.int .u8 (xs.getD i 0))) (bx : ∀ x ∈ xs, 0 ≤ x ∧ x ≤ 255) :
    Calls Try.prog 3 #[.slice (some x) n c] w fun e w' => e = .returned (.bool true) ∧ Below w.heap.size w w' := by
  have hmk := run_make_row' (P := Try.prog) 22 5 (.int .u8 0) 1 Try.underlying22 Try.info5 rfl .i64 .i64 n (by omega) (by omega)
  obtain ⟨w1, hrun, hc1, hB1, hlt⟩ := copy_run x n c xs w hx hc
  have H1 := hide (zz_any w.heap.size 0 n n xs w1 hx hn (Nat.le_refl _) hc1 bx)
  have hH := hide hc1
  have hn' : ¬ (1048576 : Int) < (n : Int) := by omega
  clear hc hc1
  go_enter Try.func3, Try.ntmps3
  go_wp2_with (go_at_call 11; refine (bytes11 _ _ _ _ hn).mono ?_; rintro e w' ⟨rfl, rfl⟩)
  refine H1.out.mono ?_
  rintro e w2 ⟨rfl, hB2⟩
  have H2 := hide (model_any w.heap.size 0 n n xs w2 hx hn (cells_below hB2 hlt hH.out))
  go_wp2_with fail
  refine H2.out.mono ?_
  rintro e w3 ⟨rfl, q, rfl⟩
  go_wp2
  go_ret
  exact ⟨rfl, below_drewN (hB1.trans (hB2.mono (Nat.le_of_lt hlt))) q⟩

set_option maxHeartbeats 400000 in
theorem match_big (a : Option Addr) (n c : Nat) (w : World) (hn : ¬ n ≤ 1048576) :
    Calls Try.prog 3 #[.slice a n c] w fun e w' => e = .returned (.bool true) ∧ Below w.heap.size w w' := by
  go_enter Try.func3, Try.ntmps3
  go_wp2_with (go_at_call 11; refine (bytes11_big _ _ _ _ hn).mono ?_; rintro e w' ⟨rfl, rfl⟩)
  go_ret
  exact ⟨rfl, Below.refl _ _⟩

set_option maxHeartbeats 400000 in
theorem match_nil (w : World) :
    Calls Try.prog 3 #[.slice none 0 0] w fun e w' => e = .returned (.bool true) ∧ Below w.heap.size w w' := by
  have kc := fun (w : World) (C : Array Value) (n c : Nat) => Lib.run_convert_bytes_const (P := Try.prog) w 22 5 C n c Try.underlying22 Try.underlying5
  go_enter Try.func3, Try.ntmps3
  go_wp2
  go_ret
  exact ⟨rfl, (Below.refl _ _).alloc (Nat.le_refl _) _⟩

theorem match_any (x : Addr) (len cap : Nat) (zs : List Int) (w : World) (hn : len ≤ 1048576) (hl : len ≤ cap) (hz : zs.length = cap)
    (hcell : ∀ i, i < zs.length → w.cell? (x.add i) = some (.int .u8 (zs.getD i 0))) (bx : ∀ x ∈ zs, 0 ≤ x ∧ x ≤ 255) :
    Calls Try.prog 3 #[.slice (some x) len cap] w fun e w' => e = .returned (.bool true) ∧ Below w.heap.size w w' := by
  have hlen : (zs.take len).length = len := by simp; omega
  have hc : ∀ i, i < len → w.cell? (x.add i) = some (.int .u8 ((zs.take len).getD i 0)) := fun i hi => by rw [hcell i (by omega)]; simp [hi]
  exact match_core x len cap (zs.take len) w hlen hn hc fun x h => bx x (List.mem_of_mem_take h)

end Go.Proofs.Qxb6602318a.Ws
