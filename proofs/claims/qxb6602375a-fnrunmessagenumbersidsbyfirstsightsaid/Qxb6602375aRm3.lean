import Derived.Test.Qxb6602375aRm2
import Derived.Deep.QuietTactic
import Derived.BigQuiet
namespace Go.Proofs.Qxb6602375a.Rm
open Go.RowKit Go.Maps
open Go.Proofs.Qxb6602375a.Hc (hide vi ret_bool wrap_in SomeBool)

theorem old18 (B : Nat) (S : List ByteArray) (vm : Value) (D : DataW Unit) (s : ByteArray) (k : Nat) (w : World) (h : RSt B w S vm D) (hs : s.size ≤ maxLen) (hk : k < S.length) (hks : S.getD k ByteArray.empty = s) :
    Calls Try.prog 18 #[.pointer (some ⟨B + 2, 0, none⟩), .string s] w fun e w' => e = .returned (.int .i64 (k : Int)) ∧ w = w' := by
  have H := hide (old29 B S vm D s k w h hs hk hks)
  clear h hks
  go_enter Try.func18, Try.ntmps18
  go_wp2_with fail
  refine H.out.mono ?_
  rintro e w' ⟨rfl, rfl⟩
  go_wp2
  go_ret
  exact ⟨rfl, rfl⟩
theorem new18 (B : Nat) (S : List ByteArray) (vm : Value) (D : DataW Unit) (s : ByteArray) (w : World) (h : RSt B w S vm D) (hs : s.size ≤ maxLen) (hS : S.length ≤ 4096) (hno : s ∉ S) :
    Calls Try.prog 18 #[.pointer (some ⟨B + 2, 0, none⟩), .string s] w fun e w' => e = .returned (.int .i64 (S.length : Int)) ∧ Laid B S vm s w w' := by
  have H := hide (new29 B S vm D s w h hs hS hno)
  clear h hno
  go_enter Try.func18, Try.ntmps18
  go_wp2_with fail
  refine H.out.mono ?_
  rintro e w' ⟨rfl, hl⟩
  have HL := hide hl
  clear hl
  go_wp2
  go_ret
  exact ⟨rfl, HL.out⟩

set_option maxHeartbeats 1000000 in
theorem count19 (B : Nat) (S : List ByteArray) (vm : Value) (D : DataW Unit) (w : World) (h : RSt B w S vm D) :
    Calls Try.prog 19 #[.pointer (some ⟨B + 2, 0, none⟩)] w fun e w' => e = .returned (.int .i64 (S.length : Int)) ∧ w = w' := by
  obtain ⟨ao, cap, rfl, hc1, hc2⟩ := own_form h.own
  have c0 := h.c0
  clear h
  unfold maxLen at hc2
  go_enter Try.func19, Try.ntmps19
  go_wp2
  go_ret
  exact ⟨rfl, rfl⟩
set_option maxHeartbeats 1000000 in
theorem count20 (B : Nat) (S : List ByteArray) (vm : Value) (D : DataW Unit) (w : World) (h : RSt B w S vm D) :
    Calls Try.prog 20 #[.pointer (some ⟨B + 2, 0, none⟩)] w fun e w' => e = .returned (.int .i64 (S.length : Int)) ∧ w = w' := by
  have c1 := h.c1
  have hmap := h.map
  have hsz := h.isMap.size
  have HS := hide hsz
  clear h hsz
  go_enter Try.func20, Try.ntmps20
  go_wp2_with (first | (at_len; refine wpList_len_own _ rfl _ 49 rfl 9 3 Try.underlying49 _ B _ D rfl hmap ?_))
  go_ret
  exact ⟨by rw [HS.out]; rfl, rfl⟩
set_option maxHeartbeats 2000000 in
theorem index22 (B : Nat) (S : List ByteArray) (vm : Value) (D : DataW Unit) (s : ByteArray) (k : Nat) (w : World) (h : RSt B w S vm D) (hs : s.size ≤ maxLen) (hk : k < S.length) (hks : S.getD k ByteArray.empty = s) :
    Calls Try.prog 22 #[.pointer (some ⟨B + 2, 0, none⟩), .string s] w fun e w' => e = .returned (.tuple #[.int .i64 (k : Int), .bool true]) ∧ w = w' := by
  have hkey := WideMaps.keyOf_string_mk Try.underlying9 hs
  have hhas : Maps.has D (.string s.data.toList) = true := (h.isMap.has s).2 (by rw [← hks]; simp [List.getD, List.getElem?_eq_getElem hk])
  have hat0 := h.isMap.at' k hk
  rw [hks] at hat0
  have HA := hide hat0
  have hmap := h.map
  have c1 := h.c1
  clear h hat0 hks
  go_enter Try.func22, Try.ntmps22
  go_wp2_with (first | (at_lookup; refine wpList_lookup_own_ok_int _ rfl _ _ 49 rfl 9 3 .i64 law9 Try.underlying49 Try.underlying3 (zero3 _) B _ D rfl hmap _ _ rfl hkey ?_; intro c hat hwc; obtain rfl : c = (k : Int) := lit_eq (hat.symm.trans HA.out)))
  exact bodyPost_ret (v := .tuple #[.int .i64 (k : Int), .bool true]) (by simp [results, Try.results22, go_sem]) rfl ⟨rfl, rfl⟩

set_option maxHeartbeats 2000000 in
theorem others23 (B : Nat) (S : List ByteArray) (vm : Value) (D : DataW Unit) (w : World) (h : RSt B w S vm D) :
    Calls Try.prog 23 #[.pointer (some ⟨B + 2, 0, none⟩)] w fun e w' => e = .returned (.tuple #[.int .i64 0, .int .i64 0, .int .i64 0, .int .i64 0]) ∧ ∃ q, w' = w.drewN q := by
  have c2 := h.c2
  have c3 := h.c3
  have c4 := h.c4
  have c5 := h.c5
  have hlen : ∀ q, Sem.run Try.prog (Builtin.len_ #[50] 3 #[Value.map (some (B + 1))]) (w.drewN q) = Result.ok (Value.int IntKind.i64 0) (w.drewN q) := fun q =>
    World.ownsMap.len (w := w.drewN q) (H := Unit) (R := plainElem Try.prog 3) (D := .map []) (show (w.drewN q).ownsMap Try.prog 9 (plainElem Try.prog 3) (B + 1) 0 (.map []) from h.map2) (t := 50) Try.underlying50 3
  clear h
  go_enter Try.func23, Try.ntmps23
  go_wp2
  go_quiet (fail)
  go_wp2
  exact bodyPost_ret (v := .tuple #[.int .i64 0, .int .i64 0, .int .i64 0, .int .i64 0]) (by simp [results, Try.results23, go_sem]) rfl ⟨rfl, nq, rfl⟩

theorem msgs_get (S : List ByteArray) (k : Nat) (hk : k < S.length) : (msgs S)[k * 4]? = some (.string (S.getD k ByteArray.empty)) ∧ (msgs S)[k * 4 + 1]? = some (.slice none 0 0) ∧ (msgs S)[k * 4 + 2]? = some (.slice none 0 0) ∧ (msgs S)[k * 4 + 3]? = some (.bool false) := by
  have h1 : S = S.take k ++ [S.getD k ByteArray.empty] ++ S.drop (k + 1) := by
    rw [List.getD_eq_getElem?_getD, List.getElem?_eq_getElem hk, Option.getD_some, ← List.take_succ_eq_append_getElem hk, List.take_append_drop]
  have h2 : msgs S = msgs (S.take k) ++ ([.string (S.getD k ByteArray.empty), .slice none 0 0, .slice none 0 0, .bool false] ++ msgs (S.drop (k + 1))) := by
    conv => lhs; rw [h1]
    rw [msgs_append, msgs_append, List.append_assoc]
    rfl
  have h3 : (msgs (S.take k)).length = k * 4 := by rw [msgs_length, List.length_take]; congr 1; omega
  have h4 : ∀ j, j < 4 → (msgs S)[k * 4 + j]? = ([.string (S.getD k ByteArray.empty), .slice none 0 0, .slice none 0 0, .bool false] : List Value)[j]? := fun j hj => by
    rw [h2, List.getElem?_append_right (by omega), h3, Nat.add_sub_cancel_left, List.getElem?_append_left (by simpa using hj)]
  exact ⟨h4 0 (by omega), h4 1 (by omega), h4 2 (by omega), h4 3 (by omega)⟩

set_option maxRecDepth 100000 in
set_option maxHeartbeats 2000000 in
theorem at21 (B : Nat) (S : List ByteArray) (vm : Value) (D : DataW Unit) (k : Nat) (w : World) (h : RSt B w S vm D) (hk : k < S.length) (hS : S.length ≤ 4096) :
    Calls Try.prog 21 #[.pointer (some ⟨B + 2, 0, none⟩), .int .i64 (k : Int)] w fun e w' => e = .returned (.tuple #[.string (S.getD k ByteArray.empty), .bool true, .bool true, .bool false]) ∧ Below w.heap.size w w' := by
  have hm := msgs_get S k hk
  obtain ⟨g, cap, rfl, _, hg⟩ := h.own.form (by omega)
  have hcs := h.own.cells (g := g) rfl
  have a0 := hcs _ _ hm.1
  have a1 := hcs _ _ hm.2.1
  have a2 := hcs _ _ hm.2.2.1
  have a3 := hcs _ _ hm.2.2.2
  rw [Addr.add_lit, Nat.zero_add] at a0 a1 a2 a3
  have c0 := h.c0
  have hq1 := fun (w : World) (a : Option Addr) (n c : Nat) => Lib.run_eql_slice_nil (P := Try.prog) w 26 9 a n c 0 0 Try.underlying26
  have hq2 := fun (w : World) (a : Option Addr) (n c : Nat) => Lib.run_eql_slice_nil (P := Try.prog) w 52 73 a n c 0 0 Try.underlying52
  obtain ⟨n, hn⟩ : ∃ n, n = S.length := ⟨_, rfl⟩
  generalize S.getD k ByteArray.empty = s at a0
  rw [← hn] at c0 hk hS
  clear hm hcs hn h
  go_enter Try.func21, Try.ntmps21
  go_wp2
  obtain ⟨w1, hw1⟩ : ∃ w1, w1 = w.alloc (Obj.cells #[Value.string s, Value.slice none 0 0, Value.slice none 0 0, Value.bool false] 57) := ⟨_, rfl⟩
  have hB : w1.heap[w.heap.size]? = some (Obj.cells #[Value.string s, Value.slice none 0 0, Value.slice none 0 0, Value.bool false] 57 (0, 0)) := by rw [hw1]; exact heap_alloc_new w _
  have f0 : w1.cell? ⟨w.heap.size, 0, none⟩ = some (.string s) := (cell_of_row _ _ 0 _ _ _ hB).trans rfl
  have f1 : w1.cell? ⟨w.heap.size, 1, none⟩ = some (.slice none 0 0) := (cell_of_row _ _ 1 _ _ _ hB).trans rfl
  have f2 : w1.cell? ⟨w.heap.size, 2, none⟩ = some (.slice none 0 0) := (cell_of_row _ _ 2 _ _ _ hB).trans rfl
  have f3 : w1.cell? ⟨w.heap.size, 3, none⟩ = some (.bool false) := (cell_of_row _ _ 3 _ _ _ hB).trans rfl
  have HBel := hide (show Below w.heap.size w w1 by rw [hw1]; exact (Below.refl _ _).alloc (Nat.le_refl _) _)
  rw [← hw1]
  clear hw1 hB a0 a1 a2 a3 c0
  generalize w.heap.size = NB at f0 f1 f2 f3 ⊢
  go_quiet (fail)
  go_wp2
  exact bodyPost_ret (v := .tuple #[.string s, .bool true, .bool true, .bool false]) (by simp [results, Try.results21, go_sem]) rfl ⟨rfl, HBel.out.os, HBel.out.tape, HBel.out.output, HBel.out.size, HBel.out.block⟩
end Go.Proofs.Qxb6602375a.Rm
