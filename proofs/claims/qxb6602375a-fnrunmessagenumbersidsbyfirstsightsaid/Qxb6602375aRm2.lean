import Derived.Test.Qxb6602375aRm
import Derived.Deep.AppendLies
namespace Go.Proofs.Qxb6602375a.Rm
open Go.RowKit Go.Maps
open Go.Proofs.Qxb6602375a.Hc (hide vi ret_bool wrap_in SomeBool)

theorem Try.info57 : (Try.prog.info? 57).map (fun i => (i.zero, i.size, i.bytes)) = some (some (.agg #[.string ByteArray.empty, .slice none 0 0, .slice none 0 0, .bool false]), 4, 72) := by kernel_rfl
theorem info_parts {o : Option TypeInfo} {z : Value} {s b : Nat} (h : o.map (fun i => (i.zero, i.size, i.bytes)) = some (some z, s, b)) : ∃ i, o = some i ∧ i.zero = some z ∧ i.size = s ∧ i.bytes = b := by
  cases o with
  | none => cases h
  | some i =>
    simp only [Option.map_some, Option.some.injEq, Prod.mk.injEq] at h
    exact ⟨i, rfl, h.1, h.2.1, h.2.2⟩

theorem lit_eq {a b : Int} (h : (DataW.lit (.int .i64 a) : DataW Unit) = .lit (.int .i64 b)) : a = b := by simpa using h

/-- What a call of message leaves alone. -/
structure Turn (w w' : World) (B : Nat) (vm vm' : Value) : Prop where
  os : w'.os = w.os
  tape : w'.tape = w.tape
  output : w'.output = w.output
  size : w.heap.size ≤ w'.heap.size
  block : ∀ k, k < w.heap.size → k ≠ B → k ≠ B + 2 → some k ≠ vm.ownBlock → w'.heap[k]? = w.heap[k]?
  lies : ∀ g, vm'.ownBlock = some g → vm.ownBlock = some g ∨ w.heap.size ≤ g
theorem Turn.refl (w : World) (B : Nat) (vm : Value) : Turn w w B vm vm := ⟨rfl, rfl, rfl, Nat.le_refl _, fun _ _ _ _ _ => rfl, fun _ h => .inl h⟩

set_option maxHeartbeats 2000000 in
/-- A message that is known. -/
theorem old29 (B : Nat) (S : List ByteArray) (vm : Value) (D : DataW Unit) (s : ByteArray) (k : Nat) (w : World) (h : RSt B w S vm D) (hs : s.size ≤ maxLen) (hk : k < S.length) (hks : S.getD k ByteArray.empty = s) :
    Calls Try.prog 29 #[.pointer (some ⟨B + 2, 0, none⟩), .string s] w fun e w' => e = .returned (.int .i64 (k : Int)) ∧ w = w' := by
  have hkey := WideMaps.keyOf_string_mk Try.underlying9 hs
  have hhas : Maps.has D (.string s.data.toList) = true := (h.isMap.has s).2 (by rw [← hks]; simp [List.getD, List.getElem?_eq_getElem hk])
  have hat0 := h.isMap.at' k hk
  rw [hks] at hat0
  have HA := hide hat0
  have hmap := h.map
  have c1 := h.c1
  clear h hat0 hks
  go_enter Try.func29, Try.ntmps29
  go_wp2_with (first | (at_lookup; refine wpList_lookup_own_ok_int _ rfl _ _ 49 rfl 9 3 .i64 law9 Try.underlying49 Try.underlying3 (zero3 _) B _ D rfl hmap _ _ rfl hkey ?_; intro c hat hwc; obtain rfl : c = (k : Int) := lit_eq (hat.symm.trans HA.out)))
  go_ret
  exact ⟨rfl, rfl⟩

/-- A message that is new has been laid. -/
def Laid (B : Nat) (S : List ByteArray) (vm : Value) (s : ByteArray) (w w' : World) : Prop := ∃ vm' D', RSt B w' (S ++ [s]) vm' D' ∧ Turn w w' B vm vm'

theorem own_form {w : World} {lo e size n : Nat} {v : Value} {xs : List Value} (h : w.ownsRow lo e size v n xs) : ∃ ao cap, v = .slice ao n cap ∧ n ≤ cap ∧ cap ≤ maxLen := by
  rcases h.2 with ⟨rfl, rfl⟩ | ⟨g, cap, cur, rfl, _, _, h1, h2, _⟩
  · exact ⟨none, 0, rfl, Nat.le_refl _, Nat.zero_le _⟩
  · exact ⟨_, cap, rfl, h1, h2⟩

/-- The message's cells, as it is laid. -/
def msgObj (s : ByteArray) : Obj := .cells #[.string s, .slice none 0 0, .slice none 0 0, .bool false] 57

theorem Laid.of {B : Nat} {S : List ByteArray} {vm : Value} {D : DataW Unit} {s : ByteArray} {w w1 w2 : World} {g cap : Nat} (h : RSt B w S vm D) (hs : s ∉ S)
    (hown : w1.ownsRow (B + 3) 57 4 (.slice (some ⟨g, 0, none⟩) (S.length + 1) cap) (S.length + 1) (msgs S ++ [.string s, .slice none 0 0, .slice none 0 0, .bool false]))
    (hg : (w.alloc (msgObj s)).grownBy w1 vm.ownBlock) (hat : vm.ownBlock = some g ∨ g = w.heap.size + 1)
    (hmap : w2.ownsMap Try.prog 9 (plainElem Try.prog 3) B (S.length + 1) (D.put (kl s) (.lit (.int .i64 (S.length : Int)))))
    (hg2 : (w1.setCell ⟨B + 2, 0, none⟩ (.slice (some ⟨g, 0, none⟩) (S.length + 1) cap)).grownBy w2 (some B)) : Laid B S vm s w w2 := by
  have hsz := h.size
  have hgs := hg.size
  have hvb : ∀ k, vm.ownBlock = some k → B + 3 ≤ k ∧ k < w.heap.size := fun k hk => h.own.lt k hk
  have hasz : (w.alloc (msgObj s)).heap.size = w.heap.size + 1 := by simp
  have hssz : (w1.setCell ⟨B + 2, 0, none⟩ (.slice (some ⟨g, 0, none⟩) (S.length + 1) cap)).heap.size = w1.heap.size := by simp
  have hglo := (hown.lt g rfl).1
  -- the blocks
  have b1 : ∀ k, k < w.heap.size → some k ≠ vm.ownBlock → w1.heap[k]? = w.heap[k]? := fun k hk hne => (hg.block k (by omega) hne).trans (Below.heap_alloc w _ k hk)
  have b2 : ∀ k, k < w1.heap.size → k ≠ B + 2 → (w1.setCell ⟨B + 2, 0, none⟩ (.slice (some ⟨g, 0, none⟩) (S.length + 1) cap)).heap[k]? = w1.heap[k]? := fun k _ hk => Below.heap_setCell _ _ _ _ hk
  have b3 : ∀ k, k < w1.heap.size → k ≠ B + 2 → k ≠ B → w2.heap[k]? = w1.heap[k]? := fun k hk h1 h2 => (hg2.block k (by omega) (by simpa using h2)).trans (b2 k hk h1)
  have bB2 : w1.heap[B + 2]? = w.heap[B + 2]? := b1 (B + 2) (by omega) (fun e => by have := (hvb _ e.symm).1; omega)
  have hc : ∀ j v, w.cell? ⟨B + 2, j, none⟩ = some v → w2.cell? ⟨B + 2, j, none⟩ = some (if j = 0 then .slice (some ⟨g, 0, none⟩) (S.length + 1) cap else v) := fun j v hv => by
    have e1 : w2.cell? ⟨B + 2, j, none⟩ = (w1.setCell ⟨B + 2, 0, none⟩ (.slice (some ⟨g, 0, none⟩) (S.length + 1) cap)).cell? ⟨B + 2, j, none⟩ := World.cell?_of_block (hg2.block (B + 2) (by omega) (by simp))
    have e2 : w1.cell? ⟨B + 2, j, none⟩ = some v := (World.cell?_of_block (w := w) (a := ⟨B + 2, j, none⟩) bB2).trans hv
    rw [e1]
    by_cases e : j = 0
    · subst e; rw [if_pos rfl]; exact World.cell?_setCell_same _ _ _ e2
    · rw [if_neg e, World.cell?_setCell_other _ _ _ _ (by intro e'; apply e; simpa using e'.symm)]; exact e2
  refine ⟨.slice (some ⟨g, 0, none⟩) (S.length + 1) cap, _, ⟨hc 0 _ h.c0, ?_, hc 1 _ h.c1, hc 2 _ h.c2, hc 3 _ h.c3, hc 4 _ h.c4, hc 5 _ h.c5, ?_, ?_, h.isMap.put (h.map.tidy law9) hs, ?_⟩, ?_⟩
  · rw [World.frozen?_of_block (w := w1.setCell ⟨B + 2, 0, none⟩ (.slice (some ⟨g, 0, none⟩) (S.length + 1) cap)) (a := ⟨B + 2, 0, none⟩) (hg2.block (B + 2) (by omega) (by simp)), World.frozen?_setCell, World.frozen?_of_block (w := w) (a := ⟨B + 2, 0, none⟩) bB2]
    exact h.f0
  · rw [msgs_append, List.length_append]
    have h1 : (w1.setCell ⟨B + 2, 0, none⟩ (.slice (some ⟨g, 0, none⟩) (S.length + 1) cap)).ownsRow (B + 3) 57 4 (.slice (some ⟨g, 0, none⟩) (S.length + 1) cap) (S.length + 1) (msgs S ++ msgs [s]) := ownsRow_setCell_below hown (by show B + 2 < _; omega) _
    exact h1.kept hg2 (.inr (by show some g ≠ some B; intro e; cases e; omega))
  · rw [List.length_append]; exact hmap
  · have m1 := (h.map2.alloc (msgObj s)).kept hg (fun e => by have := (hvb _ e.symm).1; omega)
    have m2 := m1.setCell (a := ⟨B + 2, 0, none⟩) (by show B + 1 ≠ B + 2; omega) (.slice (some ⟨g, 0, none⟩) (S.length + 1) cap)
    exact m2.kept hg2 (by simp)
  · refine ⟨hg2.os.trans hg.os, hg2.tape.trans hg.tape, hg2.output.trans hg.output, ?_, fun k hk h1 h2 h3 => ?_, fun g' hg' => ?_⟩
    · have := hg2.size; omega
    · exact (b3 k (by omega) h2 h1).trans (b1 k hk h3)
    · have e : g = g' := by simpa [Value.ownBlock] using hg'
      subst e
      rcases hat with e | e
      · exact .inl e
      · right; omega

set_option maxRecDepth 100000 in
set_option maxHeartbeats 2000000 in
/-- A message that is new. -/
theorem new29 (B : Nat) (S : List ByteArray) (vm : Value) (D : DataW Unit) (s : ByteArray) (w : World) (h : RSt B w S vm D) (hs : s.size ≤ maxLen) (hS : S.length ≤ 4096) (hno : s ∉ S) :
    Calls Try.prog 29 #[.pointer (some ⟨B + 2, 0, none⟩), .string s] w fun e w' => e = .returned (.int .i64 (S.length : Int)) ∧ Laid B S vm s w w' := by
  have hkey := WideMaps.keyOf_string_mk Try.underlying9 hs
  have hhas : Maps.has D (.string s.data.toList) = false := by
    cases hh : Maps.has D (.string s.data.toList) with
    | false => rfl
    | true => exact absurd ((h.isMap.has s).1 hh) hno
  obtain ⟨ao, cap, rfl, hc1, hc2⟩ := own_form h.own
  obtain ⟨i0, hi0, hz0, hz1, hz2⟩ := info_parts Try.info57
  have HI0 := hide hi0
  have HZ0 := hide hz0
  have HZ1 := hide hz1
  have HZ2 := hide hz2
  have hmap := h.map
  have c0 := h.c0
  have c1 := h.c1
  have hsz := h.size
  have H := hide h
  have HNo := hide hno
  have HC := hide hc2
  obtain ⟨n, hn⟩ : ∃ n, n = S.length := ⟨_, rfl⟩
  have hown0 := h.own
  rw [← hn] at hc1 c0 hS hown0 ⊢
  have HO := hide hown0
  have Hn := hide hn
  unfold maxLen at hc2
  clear h hno hi0 hz0 hz1 hz2 hn hown0
  go_enter Try.func29, Try.ntmps29
  go_wp2_with (first
    | (at_lookup; refine wpList_lookup_own_ok_int _ rfl _ _ 49 rfl 9 3 .i64 law9 Try.underlying49 Try.underlying3 (zero3 _) B _ D rfl hmap _ _ rfl hkey ?_; intro c hat hwc)
    | (at_builtin; refine wpList_append_lies _ rfl _ _ 51 rfl (B + 3) 57 i0 _ 4 72 Try.underlying51 HI0.out HZ0.out HZ1.out HZ2.out (by decide) (by decide) (.slice ao n cap) n (msgs S) rfl (HO.out.alloc _) ⟨w.heap.size, 0, none⟩ 1 1 [.string s, .slice none 0 0, .slice none 0 0, .bool false] rfl rfl ?_ ?_ (by decide) ?_ ?_ ?_ (w.heap.size + 1) (by simp) ?_))
  · exact World.news_of_block (heap_alloc_new w _)
  · intro u hu
    simp at hu
    rcases hu with rfl | rfl | rfl <;> rfl
  · unfold maxLen; omega
  · omega
  · simp; omega
  intro g cap2 w1 hown hgrow hlies hlt
  have hvb : ∀ k, (Value.slice ao n cap).ownBlock = some k → B + 3 ≤ k := fun k hk => (HO.out.lt k hk).1
  have hB2 : w1.heap[B + 2]? = w.heap[B + 2]? := (hgrow.block (B + 2) (by simp; omega) (fun e => by have := hvb _ e.symm; omega)).trans (Below.heap_alloc w _ _ (by omega))
  have d0 : w1.cell? ⟨B + 2, 0, none⟩ = some (.slice ao n cap) := (World.cell?_of_block (w := w) (a := ⟨B + 2, 0, none⟩) hB2).trans c0
  have d1 : w1.cell? ⟨B + 2, 1, none⟩ = some (.map (some B)) := (World.cell?_of_block (w := w) (a := ⟨B + 2, 1, none⟩) hB2).trans c1
  have d2 : w1.frozen? ⟨B + 2, 0, none⟩ = false := (World.frozen?_of_block (w := w) (a := ⟨B + 2, 0, none⟩) hB2).trans H.out.f0
  have hmap2 := ((hmap.alloc _).kept hgrow (fun e => by have := hvb _ e.symm; omega)).setCell (a := ⟨B + 2, 0, none⟩) (by show B ≠ B + 2; omega) (.slice (some ⟨g, 0, none⟩) (n + 1) cap2)
  have HM2 := hide hmap2
  have HOwn := hide hown
  have HGrow := hide hgrow
  have HLies := hide hlies
  clear hown hgrow hlies hB2 hmap2 hat hwc c0 c1 hvb hlt
  go_wp2_with (first
    | (at_mapUpdate; refine wpList_mapUpdate_own _ rfl _ _ _ 49 rfl 9 3 law9 Try.underlying49 _ B _ D rfl HM2.out (by rw [← Hn.out]; unfold maxLen; omega) _ _ _ rfl rfl hkey _ [] (plainElem_int Try.underlying3 (WalkArith.wf_i64 (by omega))) ?_; intro w2 hown2 hgrow2))
  have hlaid : Laid B S (.slice ao n cap) s w w2 := by
    have hH := H.out
    have e := Hn.out
    subst e
    exact Laid.of hH HNo.out HOwn.out HGrow.out HLies.out hown2 hgrow2
  go_ret
  exact ⟨rfl, hlaid⟩
end Go.Proofs.Qxb6602375a.Rm
