import Derived.Test.Qxb6602375aHc
import Derived.Maps.OwnSet
import Derived.Maps.Views
import Derived.OneCell
namespace Go.Proofs.Qxb6602375a.Rm
open Go.RowKit Go.Maps
open Go.Proofs.Qxb6602375a.Hc (hide vi ret_bool wrap_in SomeBool)

theorem Try.info9 : (Try.prog.info? 9).map (fun i => (i.zero, i.size, i.bytes)) = some (some (.string ByteArray.empty), 1, 16) := by kernel_rfl
theorem law9 : Keyed Try.prog 9 := string_keyed Try.underlying9
theorem zero3 (w : World) : (zeroValue 3).run Try.prog w = .ok (.int .i64 0) w := by kernel_rfl

/-- The ids of a slice of strings lie in memory. -/
def Ids (w : World) (b off : Nat) (ss : List ByteArray) : Prop := ∀ i, i < ss.length → w.cell? ⟨b, off + i, none⟩ = some (.string (ss.getD i ByteArray.empty))

set_option maxHeartbeats 400000 in
theorem bytes16 (b off c : Nat) (ss : List ByteArray) (w : World) (hn : ss.length ≤ maxLen) (hs : ∀ s ∈ ss, s.size ≤ maxLen) (hc : Ids w b off ss) :
    Calls Try.prog 16 #[.slice (some ⟨b, off, none⟩) ss.length c] w fun e w' => SomeBool e ∧ w = w' := by
  unfold maxLen at hn
  by_cases hb : ss.length ≤ 1048576
  · have hb' : ¬ (1048576 : Int) < (ss.length : Int) := by omega
    have hd : decide ((1048576 : Int) < (ss.length : Int)) = false := decide_eq_false hb'
    go_enter Try.func16, Try.ntmps16
    go_wp2
    go_loop [3, 4] (fun t k => ∃ (tt : Nat) (kk : Nat), tt ≤ 1048576 ∧ kk ≤ ss.length ∧ t = .int .i64 tt ∧ k = .int .i64 kk) (fun _ k => ss.length - (intOf k).toNat)
    case atStart => exact ⟨ss.length, 0, hb, Nat.zero_le _, rfl, rfl⟩
    case round =>
      obtain ⟨tt, kk, ht, hk, rfl, rfl⟩ := hrel
      by_cases hlt : kk < ss.length
      · obtain ⟨s, hs0⟩ : ∃ s, s = ss.getD kk ByteArray.empty := ⟨_, rfl⟩
        have hcell : w.cell? ⟨b, off + kk, none⟩ = some (.string s) := by rw [hs0]; exact hc kk hlt
        have hsz : s.size ≤ maxLen := hs s (by rw [hs0]; simp [List.getD, List.getElem?_eq_getElem hlt])
        unfold maxLen at hsz
        clear hs0 hd hb'
        by_cases h1 : s.size ≤ 1048576
        · have h1' : ¬ (1048576 : Int) < (s.size : Int) := by omega
          by_cases h2 : tt + s.size ≤ 1048576
          · have h2' : ¬ (1048576 : Int) < (tt : Int) + (s.size : Int) := by omega
            go_wp2
            go_round
            case rel => exact ⟨tt + s.size, kk + 1, h2, by omega, vi (by omega), vi (by omega)⟩
            case measure => simp [intOf]; omega
          · have h2' : (1048576 : Int) < (tt : Int) + (s.size : Int) := by omega
            go_wp2
            go_ret
            exact ⟨⟨_, rfl⟩, rfl⟩
        · have h1' : (1048576 : Int) < (s.size : Int) := by omega
          go_wp2
          go_ret
          exact ⟨⟨_, rfl⟩, rfl⟩
      · clear hd hb'
        go_wp2
        go_ret
        exact ⟨⟨_, rfl⟩, rfl⟩
  · have hb' : (1048576 : Int) < (ss.length : Int) := by omega
    go_enter Try.func16, Try.ntmps16
    go_wp2
    go_ret
    exact ⟨⟨_, rfl⟩, rfl⟩

/-! ### The map, as read -/
/-- What a string reads as, as a key. -/
def kl (s : ByteArray) : Lit := .string s.data.toList
theorem kl_inj {s t : ByteArray} (h : kl s = kl t) : s = t := by
  unfold kl at h
  cases s; cases t
  simp only [Lit.string.injEq] at h
  congr 1
  exact Array.ext' h
theorem kl_ne {s t : ByteArray} (h : s ≠ t) : kl s ≠ kl t := fun e => h (kl_inj e)
theorem kl_key (s : ByteArray) : WideAt.IsKeyLit (kl s) := trivial

/-- The map holds each id at its place. -/
structure MapIs (D : DataW Unit) (S : List ByteArray) : Prop where
  has : ∀ s, Maps.has D (kl s) = true ↔ s ∈ S
  at' : ∀ k, k < S.length → D.atKey (kl (S.getD k ByteArray.empty)) (.lit (.int .i64 0)) = .lit (.int .i64 (k : Int))
  size : Maps.size D = S.length
theorem MapIs.nil : MapIs (.map []) [] := ⟨fun s => by simp [Maps.has], fun k hk => absurd hk (Nat.not_lt_zero _), rfl⟩
theorem MapIs.put {D : DataW Unit} {S : List ByteArray} {s : ByteArray} (h : MapIs D S) (ht : Tidy D) (hs : s ∉ S) : MapIs (D.put (kl s) (.lit (.int .i64 (S.length : Int)))) (S ++ [s]) := by
  have hno : Maps.has D (kl s) = false := by
    cases hh : Maps.has D (kl s) with
    | false => rfl
    | true => exact absurd ((h.has s).1 hh) hs
  refine ⟨fun t => ?_, fun k hk => ?_, ?_⟩
  · rw [List.mem_append, List.mem_singleton]
    by_cases e : t = s
    · subst e; simp [has_put_same ht.isMap (kl_key t)]
    · rw [has_put_other (kl_ne e), h.has]; simp [e]
  · rw [List.length_append, List.length_singleton] at hk
    by_cases e : k = S.length
    · subst e
      rw [show (S ++ [s]).getD S.length ByteArray.empty = s by simp [List.getD]]
      exact atKey_put_same ht.isMap (kl_key s) _ _
    · have hk' : k < S.length := by omega
      rw [show (S ++ [s]).getD k ByteArray.empty = S.getD k ByteArray.empty by simp [List.getD, List.getElem?_append_left hk']]
      rw [atKey_put_other (kl_ne ?_)]
      · exact h.at' k hk'
      · intro e
        apply hs
        rw [← e]
        simp [List.getD, List.getElem?_eq_getElem hk']
  · rw [size_put ht, hno, h.size]; simp

/-- The cells of the messages. -/
def msgs (S : List ByteArray) : List Value := S.flatMap fun s => [.string s, .slice none 0 0, .slice none 0 0, .bool false]
theorem msgs_append (S T : List ByteArray) : msgs (S ++ T) = msgs S ++ msgs T := by unfold msgs; rw [List.flatMap_append]
theorem msgs_length (S : List ByteArray) : (msgs S).length = S.length * 4 := by
  induction S with
  | nil => rfl
  | cons s S ih => rw [show s :: S = [s] ++ S from rfl, msgs_append, List.length_append, ih]; simp [msgs]; omega
def strs (S : List ByteArray) : List Value := S.map .string
theorem strs_length (S : List ByteArray) : (strs S).length = S.length := by unfold strs; rw [List.length_map]
theorem strs_append (S T : List ByteArray) : strs (S ++ T) = strs S ++ strs T := by unfold strs; rw [List.map_append]

/-- The Run, its map's block at B, the other map's at B + 1, the struct's at B + 2. -/
structure RSt (B : Nat) (wr : World) (S : List ByteArray) (vm : Value) (D : DataW Unit) : Prop where
  c0 : wr.cell? ⟨B + 2, 0, none⟩ = some vm
  f0 : wr.frozen? ⟨B + 2, 0, none⟩ = false
  c1 : wr.cell? ⟨B + 2, 1, none⟩ = some (.map (some B))
  c2 : wr.cell? ⟨B + 2, 2, none⟩ = some (.slice none 0 0)
  c3 : wr.cell? ⟨B + 2, 3, none⟩ = some (.map (some (B + 1)))
  c4 : wr.cell? ⟨B + 2, 4, none⟩ = some (.int .i64 0)
  c5 : wr.cell? ⟨B + 2, 5, none⟩ = some (.int .i64 0)
  own : wr.ownsRow (B + 3) 57 4 vm S.length (msgs S)
  map : wr.ownsMap Try.prog 9 (plainElem Try.prog 3) B S.length D
  isMap : MapIs D S
  map2 : wr.ownsMap (H := Unit) Try.prog 9 (plainElem Try.prog 3) (B + 1) 0 (.map [])
theorem RSt.size {B : Nat} {wr : World} {S : List ByteArray} {vm : Value} {D : DataW Unit} (h : RSt B wr S vm D) : B + 3 ≤ wr.heap.size := by
  have := World.block_lt_of_cell? wr _ h.c0
  have e : (⟨B + 2, 0, none⟩ : Addr).block = B + 2 := rfl
  omega
/-- Whatever leaves the old blocks alone. -/
theorem RSt.below {B : Nat} {wr w' : World} {S : List ByteArray} {vm : Value} {D : DataW Unit} (h : RSt B wr S vm D) (hb : Below wr.heap.size wr w') : RSt B w' S vm D := by
  have hs := h.size
  have hc : ∀ j, w'.cell? ⟨B + 2, j, none⟩ = wr.cell? ⟨B + 2, j, none⟩ := fun j => hb.cell (p := ⟨B + 2, j, none⟩) (by show B + 2 < _; omega)
  have hg : wr.grownBy w' none := ⟨hb.os, hb.tape, hb.output, hb.size, fun k hk _ => hb.block k hk⟩
  refine ⟨(hc 0).trans h.c0, (hb.frozen (p := ⟨B + 2, 0, none⟩) (by show B + 2 < _; omega)).trans h.f0, (hc 1).trans h.c1, (hc 2).trans h.c2, (hc 3).trans h.c3, (hc 4).trans h.c4, (hc 5).trans h.c5, ?_, h.map.kept hg (by simp), h.isMap, h.map2.kept hg (by simp)⟩
  exact h.own.kept hg (by cases hv : vm.ownBlock <;> simp)

theorem frozen_row {w : World} {B : Nat} {c : Array Value} {t : TypeId} (h : w.heap[B]? = some (.cells c t (0, 0))) (j : Nat) : w.frozen? ⟨B, j, none⟩ = false := by simp [World.frozen?, h]

set_option maxHeartbeats 1000000 in
theorem new17 (w : World) : Calls Try.prog 17 #[] w fun e w' => e = .returned (.pointer (some ⟨w.heap.size + 2, 0, none⟩)) ∧ RSt w.heap.size w' [] (.slice none 0 0) (.map []) ∧ Below w.heap.size w w' := by
  have hmm := @run_makeMap Try.prog
  go_enter Try.func17, Try.ntmps17
  go_wp2
  go_ret
  have hlast : ∀ (w1 : World) (o : Obj), (w1.alloc o).heap[w1.heap.size]? = some o := fun w1 o => heap_alloc_new w1 o
  have hsz : ((w.alloc (Obj.map #[] 0)).alloc (Obj.map #[] 0)).heap.size = w.heap.size + 2 := by simp
  refine ⟨rfl, ?_, ?_⟩
  · have hB := hlast ((w.alloc (Obj.map #[] 0)).alloc (Obj.map #[] 0)) (Obj.cells #[Value.slice none 0 0, Value.map (some w.heap.size), Value.slice none 0 0, Value.map (some (w.heap.size + 1)), Value.int IntKind.i64 0, Value.int IntKind.i64 0] 54)
    rw [hsz] at hB
    refine ⟨?_, ?_, ?_, ?_, ?_, ?_, ?_, World.ownsRow_nil _ _ _ _, ((World.ownsMap_made w _ _ _).alloc _).alloc _, MapIs.nil, ?_⟩
    · exact (cell_of_row _ _ 0 _ _ _ hB).trans rfl
    · exact frozen_row hB 0
    · exact (cell_of_row _ _ 1 _ _ _ hB).trans rfl
    · exact (cell_of_row _ _ 2 _ _ _ hB).trans rfl
    · exact (cell_of_row _ _ 3 _ _ _ hB).trans rfl
    · exact (cell_of_row _ _ 4 _ _ _ hB).trans rfl
    · exact (cell_of_row _ _ 5 _ _ _ hB).trans rfl
    · have := (World.ownsMap_made (H := Unit) (w.alloc (Obj.map #[] 0)) Try.prog 9 (plainElem Try.prog 3)).alloc (Obj.cells #[Value.slice none 0 0, Value.map (some w.heap.size), Value.slice none 0 0, Value.map (some (w.heap.size + 1)), Value.int IntKind.i64 0, Value.int IntKind.i64 0] 54)
      rw [show (w.alloc (Obj.map #[] 0)).heap.size = w.heap.size + 1 by simp] at this
      exact this
  · exact (((Below.refl _ _).alloc (Nat.le_refl _) _).alloc (by simp) _).alloc (by simp; omega) _
end Go.Proofs.Qxb6602375a.Rm
