import Derived.Test.Qxb6602318aPi9
namespace Go.Proofs.Qxb6602318a.Pi
open Go.RowKit
open Go.Proofs.Qxb6602318a.Sd (hide vi ret_bool wrap_in Fits rowIs_below)

set_option maxRecDepth 100000 in
set_option maxHeartbeats 1000000 in
theorem bytes26_nil (a : Option Addr) (c : Nat) (i at' : Int) (id : ByteArray) (w : World) (hid : id.size ≤ maxLen) :
    Calls Try.prog 26 #[.slice a 0 c, .int .i64 i, .int .i64 at', .string id] w fun e w' => IfYes e True ∧ w = w' := by
  unfold maxLen at hid
  by_cases h1 : id.size ≤ 1048576
  · have h1' : ¬ (1048576 : Int) < (id.size : Int) := by omega
    go_enter Try.func26, Try.ntmps26
    go_wp2
    refine wp_loop_rounds 1 ?_
    rw [rounds_succ]
    go_wp2
    go_ret
    exact ⟨IfYes.yes rfl trivial, rfl⟩
  · have h1' : (1048576 : Int) < (id.size : Int) := by omega
    go_enter Try.func26, Try.ntmps26
    go_wp2
    refine wp_loop_rounds 1 ?_
    rw [rounds_succ]
    go_wp2
    go_ret
    exact ⟨IfYes.yes rfl trivial, rfl⟩
set_option maxRecDepth 100000 in
set_option maxHeartbeats 1000000 in
theorem fit27_nil (a : Option Addr) (c : Nat) (id : ByteArray) (w : World) (hid : id.size ≤ maxLen) :
    Calls Try.prog 27 #[.slice a 0 c, .string id] w fun e w' => IfYes e True ∧ w = w' := by
  unfold maxLen at hid
  by_cases h1 : id.size ≤ 1048576
  · have h1' : ¬ (1048576 : Int) < (id.size : Int) := by omega
    go_enter Try.func27, Try.ntmps27
    go_wp2
    refine wp_loop_rounds 1 ?_
    rw [rounds_succ]
    go_wp2
    go_ret
    exact ⟨IfYes.yes rfl trivial, rfl⟩
  · have h1' : (1048576 : Int) < (id.size : Int) := by omega
    go_enter Try.func27, Try.ntmps27
    go_wp2
    go_ret
    exact ⟨IfYes.yes rfl trivial, rfl⟩
theorem place28_nil (a : Option Addr) (c : Nat) (i at' : Int) (w : World) :
    Calls Try.prog 28 #[.slice a 0 c, .int .i64 i, .int .i64 at'] w fun e w' => e = .returned (.bool true) ∧ w = w' := by
  go_enter Try.func28, Try.ntmps28
  go_wp2
  go_ret
  exact ⟨rfl, rfl⟩
/-- A copy of no runs. -/
def NoRuns (e : Ending) : Prop := ∃ a, e = .returned (.slice a 0 0)
set_option maxHeartbeats 400000 in
theorem copy29_nil (a : Option Addr) (c : Nat) (w : World) : Calls Try.prog 29 #[.slice a 0 c] w fun e w' => NoRuns e ∧ Below w.heap.size w w' := by
  have hq1 := fun (w : World) (a : Option Addr) (n c : Nat) => Lib.run_eql_slice_nil (P := Try.prog) w 36 27 a n c 0 0 Try.underlying36
  cases a with
  | none =>
    go_enter Try.func29, Try.ntmps29
    go_wp2
    go_ret
    exact ⟨⟨none, rfl⟩, Below.refl _ _⟩
  | some ad =>
    have mk1 := run_make_row' (P := Try.prog) 36 27 (.slice none 0 0) 24 Try.underlying36 Try.info27 rfl .i64 .i64 0 (by omega) (by omega)
    rw [show ((0 : Nat) : Int) = 0 from rfl] at mk1
    go_enter Try.func29, Try.ntmps29
    go_wp2
    refine wp_loop_rounds 1 ?_
    rw [rounds_succ]
    go_wp2
    go_ret
    exact ⟨⟨_, rfl⟩, (Below.refl _ _).alloc (Nat.le_refl _) _⟩

set_option maxRecDepth 100000 in
set_option maxHeartbeats 1000000 in
theorem inserts_nil (a : Option Addr) (c : Nat) (i at' : Int) (id : ByteArray) (w : World) (hid : id.size ≤ maxLen) :
    Calls Try.prog 8 #[.slice a 0 c, .int .i64 i, .int .i64 at', .string id] w fun e w' => e = .returned (.bool true) ∧ Below w.heap.size w w' := by
  go_enter Try.func8, Try.ntmps8
  go_wp2_with fail
  refine (bytes26_nil a c i at' id w hid).mono ?_
  rintro e w' ⟨⟨r, rfl, _⟩, rfl⟩
  cases r
  · go_wp2
    go_ret
    exact ⟨rfl, Below.refl _ _⟩
  go_wp2_with fail
  refine (fit27_nil a c id w hid).mono ?_
  rintro e w' ⟨⟨r, rfl, _⟩, rfl⟩
  cases r
  · go_wp2
    go_ret
    exact ⟨rfl, Below.refl _ _⟩
  go_wp2_with fail
  refine (place28_nil a c i at' w).mono ?_
  rintro e w' ⟨rfl, rfl⟩
  go_wp2_with fail
  refine (copy29_nil a c w).mono ?_
  rintro e w1 ⟨⟨a1, rfl⟩, hb1⟩
  have hb1s := hb1.size
  go_wp2_with fail
  refine (new30 _ _ _ _).mono ?_
  rintro e w2 ⟨rfl, hw2⟩
  have hb2 : Below w1.heap.size w1 w2 := by rw [hw2]; exact (Below.refl _ _).alloc (Nat.le_refl _) _
  have c1 : w2.cell? ⟨w1.heap.size, 0, none⟩ = some (.slice a1 0 0) := by rw [hw2, World.cell?_alloc_at _ _ _ _ rfl]; rfl
  have c2 : w2.frozen? ⟨w1.heap.size, 0, none⟩ = false := by rw [hw2, World.frozen?_alloc_at _ _ _ _ rfl]
  have hlt := cell_lt c1
  clear hw2
  go_wp2_with fail
  refine (put31_empty w1.heap.size a1 i at' id w2 c1 c2).mono ?_
  rintro e w3 ⟨rfl, hK, g, cap, ⟨ab, ao, asp⟩, c', d1, d2, d3, d4⟩
  have d4' : asp = none := d4
  subst d4'
  have hfin : Below w.heap.size w w3 := (hb1.trans (hb2.mono hb1s)).trans (hK.below hb1s (by omega))
  have HF := hide hfin
  clear hfin hK c1 c2 d4
  have H32 := hide (runs32 w1.heap.size _ w3 _ _ _ rfl d1)
  go_wp2_with fail
  refine H32.out.mono ?_
  rintro e wx ⟨rfl, rfl⟩
  have hxx : (id.toList == id.toList) = true := by simp
  go_wp2
  go_ret
  exact ⟨rfl, HF.out⟩

end Go.Proofs.Qxb6602318a.Pi
