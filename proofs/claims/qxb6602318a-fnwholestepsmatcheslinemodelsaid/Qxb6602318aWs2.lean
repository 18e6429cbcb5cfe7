import Derived.Test.Qxb6602318aWs
namespace Go.Proofs.Qxb6602318a.Ws
open Go.RowKit

theorem lastTo_lo (xs : List Int) (c : Int) : ∀ k, -1 ≤ lastTo xs c k
  | 0 => by simp [lastTo]
  | k + 1 => by
    have := lastTo_lo xs c k
    simp only [lastTo]; split <;> omega
theorem lastTo_hi (xs : List Int) (c : Int) : ∀ k, lastTo xs c k < k
  | 0 => by simp [lastTo]
  | k + 1 => by
    have := lastTo_hi xs c k
    simp only [lastTo]; split <;> omega
theorem lastTo_ge (xs : List Int) (c : Int) (j : Nat) (hj : xs.getD j 0 = c) : ∀ k, j < k → (j : Int) ≤ lastTo xs c k
  | 0, h => absurd h (Nat.not_lt_zero _)
  | k + 1, h => by
    simp only [lastTo]
    split
    · omega
    · rename_i hne
      rcases Nat.lt_or_eq_of_le (Nat.le_of_lt_succ h) with h' | h'
      · exact lastTo_ge xs c j hj k h'
      · subst h'; exact absurd hj hne
/-- The length of the whole lines. -/
def wh (xs : List Int) : Nat := (lastTo xs 10 xs.length + 1).toNat
/-- Where the last whole line begins. -/
def la (xs : List Int) : Nat := (lastTo (xs.take (wh xs - 1)) 10 (wh xs - 1) + 1).toNat

set_option maxHeartbeats 400000 in
theorem wholeSteps_yes (b off n c : Nat) (xs : List Int) (w : World) (hx : xs.length = n) (hn : n ≤ 1048576) (hnc : n ≤ c)
    (hc : ∀ i, i < n → w.cell? ⟨b, off + i, none⟩ = some (.int .u8 (xs.getD i 0))) (bx : ∀ x ∈ xs, 0 ≤ x ∧ x ≤ 255) (hp : pfx xs header = true) (hwh : 1 ≤ wh xs) :
    Calls Try.prog 40 #[.slice (some ⟨b, off, none⟩) n c] w fun e w' => e = .returned (.int .i64 (if pfx ((xs.take (wh xs)).drop (la xs)) outcome = true then (la xs : Int) else (wh xs : Int))) ∧ Below w.heap.size w w' := by
  have kc := fun (w : World) (C : Array Value) (n c : Nat) => Lib.run_convert_bytes_const (P := Try.prog) w 22 5 C n c Try.underlying22 Try.underlying5
  have kc2 : ∀ (w : World) (o : Obj) (C : Array Value) (n c : Nat), (convert 22 22 (.slice (some ⟨w.heap.size + 1, 0, none⟩) n c)).run Try.prog ((w.alloc o).alloc (.cells C 5)) = .ok (.slice (some ⟨w.heap.size + 1, 0, none⟩) n c) ((w.alloc o).alloc (.cells C 5 (C.size, C.size + 1))) :=
    fun w o C n c => by simpa using kc (w.alloc o) C n c
  obtain ⟨W, hW⟩ : ∃ W, W = wh xs := ⟨_, rfl⟩
  obtain ⟨L, hL⟩ : ∃ L, L = la xs := ⟨_, rfl⟩
  have e1 : lastTo xs 10 n = (W : Int) - 1 := by
    have h1 := lastTo_lo xs 10 n
    rw [hW, wh, hx]; omega
  have hWn : W ≤ n := by have := lastTo_hi xs 10 n; omega
  have e2 : lastTo (xs.take (W - 1)) 10 (W - 1) = (L : Int) - 1 := by
    have h1 := lastTo_lo (xs.take (W - 1)) 10 (W - 1)
    rw [hL, la, ← hW]; omega
  rw [← hW] at hwh
  have hLW : L < W := by have := lastTo_hi (xs.take (W - 1)) 10 (W - 1); omega
  let w1 := w.alloc (.cells (header.map (Value.int .u8)).toArray 5 (25, 26))
  have hc1 : ∀ i, i < n → w1.cell? ⟨b, off + i, none⟩ = some (.int .u8 (xs.getD i 0)) := fun i hi => Lib.cell?_alloc_marked _ (hc i hi)
  have C1 := hasPrefix_any b off n c w.heap.size 0 25 25 xs header w1 hx rfl hnc hc1 (fun i hi => num_cells w header (25, 26) i hi) bx header_byte
  have C2 := bytesLastIndexByte_any b off n c xs 10 w1 hx hn hc1
  have C3 := bytesLastIndexByte_any b off (W - 1) c (xs.take (W - 1)) 10 w1 (by simp; omega) (by omega) (fun i hi => by rw [hc1 i (by omega)]; simp [hi])
  have C4 := hasPrefix_any b (off + L) (W - L) (c - L) w1.heap.size 0 13 13 ((xs.take W).drop L) outcome (w1.alloc (.cells (outcome.map (Value.int .u8)).toArray 5 (13, 14))) (by simp; omega) rfl (by omega)
    (fun i hi => Lib.cell?_alloc_marked _ (by rw [Nat.add_assoc, hc1 (L + i) (by omega)]; simp; rw [List.getElem?_take, if_pos (by omega)])) (fun i hi => num_cells w1 outcome (13, 14) i hi)
    (fun x h => bx x (List.mem_of_mem_take (List.mem_of_mem_drop h))) outcome_byte
  have hs1 : w1.heap.size = w.heap.size + 1 := by simp [w1]
  rw [hs1] at C4
  rw [hp] at C1
  rw [e1] at C2
  rw [e2] at C3
  rw [← hW, ← hL]
  generalize pfx ((xs.take W).drop L) outcome = r at *
  clear hs1 hp hc hc1 e1 e2 hW hL
  have H1 := hide C1
  have H2 := hide C2
  have H3 := hide C3
  have H4 := hide C4
  clear C1 C2 C3 C4
  simp only [w1] at H1 H2 H3 H4
  clear w1
  go_enter Try.func40, Try.ntmps40
  go_wp2_with fail
  refine H1.out.mono ?_
  rintro e w' ⟨rfl, rfl⟩
  go_wp2_with fail
  refine H2.out.mono ?_
  rintro e w' ⟨rfl, rfl⟩
  go_wp2_with fail
  refine H3.out.mono ?_
  rintro e w' ⟨rfl, rfl⟩
  have hLc : ¬ c = L := by omega
  have hLc' : ¬ c - L = 0 := by omega
  go_wp2_with fail
  refine H4.out.mono ?_
  rintro e w' ⟨rfl, rfl⟩
  cases r
  all_goals
    go_wp2
    go_ret
    exact ⟨rfl, ((Below.refl _ _).alloc (Nat.le_refl _) _).alloc (by simp) _⟩

end Go.Proofs.Qxb6602318a.Ws
