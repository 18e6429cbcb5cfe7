import Derived.Test.Qxb6602318aPi4
import Derived.Deep.RegionHeld3
import Derived.Deep.DrawnRows
import Derived.Laws.CopyOwn
namespace Go.Proofs.Qxb6602318a.Pi
open Go.RowKit
open Go.Proofs.Qxb6602318a.Sd (hide vi ret_bool wrap_in Fits rowIs_below)
attribute [local go_sem] Go.wp_at_zero Go.wp_at_succ

theorem Try.size27 : (Try.prog.info? 27).map (·.size) = some 1 := by kernel_rfl

/-- All but block S is as it was. -/
structure KeepBut (S : Nat) (w w' : World) : Prop where
  os : w'.os = w.os
  tape : w'.tape = w.tape
  output : w'.output = w.output
  size : w.heap.size ≤ w'.heap.size
  block : ∀ k, k < w.heap.size → k ≠ S → w'.heap[k]? = w.heap[k]?
theorem KeepBut.below {S : Nat} {w w' : World} (h : KeepBut S w w') {B : Nat} (hB : B ≤ S) (hB2 : B ≤ w.heap.size) : Below B w w' := ⟨h.os, h.tape, h.output, h.size, fun k hk => h.block k (by omega) (by omega)⟩
theorem KeepBut.of_below {w w' : World} (h : Below w.heap.size w w') (S : Nat) : KeepBut S w w' := ⟨h.os, h.tape, h.output, h.size, fun k hk _ => h.block k hk⟩
theorem KeepBut.trans {S : Nat} {a b c : World} (h : KeepBut S a b) (k : KeepBut S b c) : KeepBut S a c := ⟨k.os.trans h.os, k.tape.trans h.tape, k.output.trans h.output, Nat.le_trans h.size k.size, fun i hi hs => (k.block i (by have := h.size; omega) hs).trans (h.block i hi hs)⟩
theorem KeepBut.set {S : Nat} {w : World} (o : Nat) (v : Value) : KeepBut S w (w.setCell ⟨S, o, none⟩ v) := ⟨rfl, rfl, rfl, by simp [World.setCell], fun k hk hs => Below.heap_setCell _ _ _ _ hs⟩

theorem cell_list {w : World} {g : Nat} {L : List Value} {t : TypeId} (hg : w.heap[g]? = some (.cells L.toArray t (0, 0))) (j : Nat) : w.cell? ⟨g, j, none⟩ = L[j]? := by simp [World.cell?, hg]
theorem free_list {w : World} {g : Nat} {L : List Value} {t : TypeId} (hg : w.heap[g]? = some (.cells L.toArray t (0, 0))) (j : Nat) : w.frozen? ⟨g, j, none⟩ = false := by simp [World.frozen?, hg]
/-- copy inside one row. -/
theorem copy_self (dT e : TypeId) (hu : Try.prog.underlying dT = some (.slice e)) (hs : (Try.prog.info? e).map (·.size) = some 1) (w : World) (g : Nat) (L : List Value) (t : TypeId) (hg : w.heap[g]? = some (.cells L.toArray t (0, 0)))
    (d dLen s sLen m : Nat) (hm : m = Nat.min sLen dLen) (h1 : s + m ≤ L.length) (h2 : d + m ≤ L.length) (hone : ∀ v ∈ (L.drop s).take m, v.oneCell' = true) :
    ∃ w', (∀ dCap sCap, (Builtin.copy_ #[dT, dT] 3 #[.slice (some ⟨g, d, none⟩) dLen dCap, .slice (some ⟨g, s, none⟩) sLen sCap]).run Try.prog w = .ok (.int .i64 m) w') ∧
      w'.heap[g]? = some (.cells (splice L d ((L.drop s).take m)).toArray t (0, 0)) ∧ KeepBut g w w' := by
  have hl : ((L.drop s).take m).length = m := by simp; omega
  have hrun := fun dCap sCap => run_copy_row Try.prog w dT dT 3 e g d dLen dCap ⟨g, s, none⟩ sLen sCap L.toArray t ((L.drop s).take m) hu hs hg (by rw [hl, hm]) (fun j v hj => by
    have hjm : j < m := by have := (List.getElem?_eq_some_iff.1 hj).1; omega
    rw [Addr.add_lit, cell_list hg]
    rw [List.getElem?_take, if_pos hjm, List.getElem?_drop] at hj
    exact hj) (by simpa [hl] using h2) hone
  have en : goInt (((L.drop s).take m).length : Nat) = .int .i64 m := by rw [hl]; rfl
  rw [en] at hrun
  refine ⟨_, hrun, ?_, ⟨rfl, rfl, rfl, by simp, fun k hk hs => setRow_other w g k _ hs⟩⟩
  rw [setRow_heap w g _ _ t _ hg]
  simp [splice, List.append_assoc]

/-- Behind the shift and the store the row reads as with the new value put in. -/
theorem ins_get {L vs : List Value} {n i : Nat} (hn : vs.length = n) (hi : i ≤ n) (hL : n + 1 ≤ L.length) (h : ∀ j, j < n → L[j]? = vs[j]?) (rv : Value) :
    ∀ k v, (vs.take i ++ rv :: vs.drop i)[k]? = some v → (if i = k then some rv else (splice L (i + 1) ((L.drop i).take (n - i)))[k]?) = some v := by
  intro k v hk
  have hl : ((L.drop i).take (n - i)).length = n - i := by simp; omega
  have hti : (vs.take i).length = i := by simp; omega
  rcases Nat.lt_trichotomy k i with h1 | h1 | h1
  · rw [List.getElem?_append_left (by omega), List.getElem?_take, if_pos h1] at hk
    rw [if_neg (by omega), splice, List.getElem?_append_left (by simp; omega), List.getElem?_take, if_pos (by omega), h k (by omega)]
    exact hk
  · subst h1
    rw [List.getElem?_append_right (by omega), hti, Nat.sub_self] at hk
    rw [if_pos rfl]; simpa using hk
  · have hkn : k - i - 1 < n - i := by
      have h2 := (List.getElem?_eq_some_iff.1 hk).1
      simp at h2; omega
    rw [List.getElem?_append_right (by omega), hti, show k - i = (k - i - 1) + 1 by omega, List.getElem?_cons_succ, List.getElem?_drop] at hk
    have htl : (L.take (i + 1)).length = i + 1 := by simp; omega
    rw [if_neg (by omega), splice, List.getElem?_append_right (by omega), htl, List.getElem?_append_left (by rw [hl]; omega), List.getElem?_take, if_pos (by omega), List.getElem?_drop, show i + (k - (i + 1)) = i + (k - i - 1) by omega, h _ (by omega)]
    exact hk
theorem set_list {w : World} {g i : Nat} {L : List Value} {t : TypeId} (hg : w.heap[g]? = some (.cells L.toArray t (0, 0))) (hi : i < L.length) (rv : Value) (k : Nat) (v : Value) (h : (if i = k then some rv else L[k]?) = some v) :
    (w.setCell ⟨g, i, none⟩ rv).cell? ⟨g, k, none⟩ = some v := by
  by_cases e : i = k
  · subst e
    rw [if_pos rfl] at h
    rw [World.cell?_setCell_same _ _ _ (show w.cell? ⟨g, i, none⟩ = some L[i] by rw [cell_list hg, List.getElem?_eq_getElem hi])]
    exact h
  · rw [if_neg e] at h
    rw [World.cell?_setCell_other _ _ _ _ (by intro h; injection h with _ h; exact e h), cell_list hg]
    exact h
theorem splice_length {L : List Value} {d m s : Nat} (_h1 : s + m ≤ L.length) (h2 : d + m ≤ L.length) : (splice L d ((L.drop s).take m)).length = L.length :=
  length_splice _ _ _ (by simp; omega)

/-- The outer slice behind s, one longer. -/
def Inserted (w w' : World) (Sb i : Nat) (vs : List Value) (rv : Value) : Prop :=
  KeepBut Sb w w' ∧ ∃ g cap, w'.cell? ⟨Sb, 0, none⟩ = some (.slice (some ⟨g, 0, none⟩) (vs.length + 1) cap) ∧ w.heap.size ≤ g ∧ ∀ k v, (vs.take i ++ rv :: vs.drop i)[k]? = some v → w'.cell? ⟨g, k, none⟩ = some v

set_option maxRecDepth 100000 in
set_option maxHeartbeats 2000000 in
theorem insert49 (Sb i : Nat) (ao : Option Addr) (vs : List Value) (ra : Option Addr) (rl rc : Nat) (w : World) (n : Nat) (hn : vs.length = n) (hn2 : n ≤ 65536) (hi : i ≤ n)
    (hS : w.cell? ⟨Sb, 0, none⟩ = some (.slice ao n n)) (hf : w.frozen? ⟨Sb, 0, none⟩ = false) (hnil : ao = none → n = 0)
    (hvs : ∀ ad, ao = some ad → ∀ j u, vs[j]? = some u → w.cell? (ad.add j) = some u) (hone : ∀ v ∈ vs, v.oneCell' = true) :
    Calls Try.prog 49 #[.pointer (some ⟨Sb, 0, none⟩), .int .i64 i, .slice ra rl rc] w fun e w' => e = .returned (.tuple #[]) ∧ Inserted w w' Sb i vs (.slice ra rl rc) := by
  obtain ⟨i0, hi0, hz0, hz1, hz2⟩ := info_parts Try.info27
  have HV := hide hvs
  have HO := hide hone
  have hSlt := cell_lt hS
  clear hvs hone
  go_enter Try.func49, Try.ntmps49
  go_wp2_with (first | (at_builtin; refine wpList_append_grows _ rfl _ _ 36 rfl 27 i0 _ 1 24 Try.underlying36 hi0 hz0 hz1 hz2 rfl (by decide) ao n n vs rfl ?_ ?_ ?_ ⟨w.heap.size, 0, none⟩ 1 1 [.slice none 0 0] rfl rfl ?_ ?_ ?_ ?_ ?_ ?_))
  · exact fun h => ⟨hnil h, hnil h⟩
  · simp [hn]
  · intro b hb j u hj
    exact Sd.cell_al _ (HV.out b hb j u hj)
  · intro j u hj
    cases j with
    | zero => simp at hj; subst hj; simp [Addr.add]
    | succ j => simp at hj
  · intro u hu; simp at hu; subst hu; rfl
  · omega
  · unfold maxLen; omega
  · omega
  · intro v' w2 hown hgrow
    obtain ⟨g, cap, rfl, hg1, hg2⟩ := hown.form (by omega)
    have hcur := hown.2
    rcases hcur with ⟨h0, _⟩ | ⟨g', cap', cur, hv, hb', hg, h1, h2, h3, h4⟩
    · cases h0
    · injection hv with e1 _ e2
      injection e1 with e1
      injection e1 with e1 _ _
      subst e1 e2
      have hk2 : KeepBut Sb w w2 := KeepBut.of_below (((Below.refl _ _).alloc (Nat.le_refl _) _).grown hgrow (by simp) (fun k e => by cases e)) Sb
      have hS2 : w2.cell? ⟨Sb, 0, none⟩ = some (.slice ao n n) := by
        rw [World.cell?_of_block (w := w) (a := ⟨Sb, 0, none⟩) ?_]
        · exact hS
        · show w2.heap[Sb]? = w.heap[Sb]?
          rw [hgrow.block Sb (by simp; omega) (by simp)]
          exact Below.heap_alloc _ _ _ hSlt
      have hf2 : w2.frozen? ⟨Sb, 0, none⟩ = false := by
        rw [World.frozen?_of_block (w := w) (a := ⟨Sb, 0, none⟩) ?_]
        · exact hf
        · show w2.heap[Sb]? = w.heap[Sb]?
          rw [hgrow.block Sb (by simp; omega) (by simp)]
          exact Below.heap_alloc _ _ _ hSlt
      have hgS : g ≠ Sb := by have : w.heap.size + 1 ≤ g := by { simpa using hg1 }; omega
      have hgw : w.heap.size ≤ g := by have : w.heap.size + 1 ≤ g := by { simpa using hg1 }; omega
      have Hown := hide hown
      clear hown
      go_wp2
      have hk3 := hk2.trans (KeepBut.set 0 (.slice (some ⟨g, 0, none⟩) (n + 1) cap))
      have hS3 : (w2.setCell ⟨Sb, 0, none⟩ (.slice (some ⟨g, 0, none⟩) (n + 1) cap)).cell? ⟨Sb, 0, none⟩ = some (.slice (some ⟨g, 0, none⟩) (n + 1) cap) := World.cell?_setCell_same _ _ _ hS2
      have hg3 : (w2.setCell ⟨Sb, 0, none⟩ (.slice (some ⟨g, 0, none⟩) (n + 1) cap)).heap[g]? = some (.cells cur.toList.toArray 27 (0, 0)) := by
        rw [Below.heap_setCell _ _ _ _ hgS]; simpa using hg
      have hg2' : g < (w2.setCell ⟨Sb, 0, none⟩ (.slice (some ⟨g, 0, none⟩) (n + 1) cap)).heap.size := by simpa [World.setCell] using hg2
      have hC1 : cur.toList.length = cap := by simpa using h3
      have hC2 : cur.toList.take (n + 1) = vs ++ [.slice none 0 0] := by simpa using h4
      generalize w2.setCell ⟨Sb, 0, none⟩ (.slice (some ⟨g, 0, none⟩) (n + 1) cap) = w3 at *
      generalize cur.toList = L at *
      clear hgrow hS2 hf2 hS Hown hk2 hb' hg h3 h4 hnil
      have HC2 := hide hC2
      have HG3 := hide hg3
      clear hC2 hg3
      have b1 : (0 : Int) ≤ (i : Int) := by omega
      have b2 : (i : Int) ≤ ((n + 1 : Nat) : Int) := by omega
      have b3 : ((n + 1 : Nat) : Int) ≤ (cap : Int) := by omega
      have b4 : (i : Int) + 1 ≤ ((n + 1 : Nat) : Int) := by omega
      have b5 : (0 : Int) ≤ (i : Int) + 1 := by omega
      have hwr : IntKind.i64.wrap ((i : Int) + 1) = (i : Int) + 1 := wrap_in _ (by omega) (by omega)
      have hci : ¬ cap = i := by omega
      have b6 : (i : Int) ≤ (n : Int) + 1 := by omega
      have b7 : i ≤ n + 1 := by omega
      have hL1 : ∀ j, j < n → L[j]? = vs[j]? := fun j hj => by
        have e : (L.take (n + 1))[j]? = (vs ++ [.slice none 0 0])[j]? := by rw [HC2.out]
        rw [List.getElem?_take, if_pos (by omega), List.getElem?_append_left (by omega)] at e
        exact e
      have hone2 : ∀ v ∈ (L.drop i).take (n - i), v.oneCell' = true := fun v hv => by
        obtain ⟨j, hj⟩ := List.mem_iff_getElem?.1 hv
        have hjn : j < n - i := by
          rcases Nat.lt_or_ge j (n - i) with h | h
          · exact h
          · rw [List.getElem?_take, if_neg (by omega)] at hj; cases hj
        rw [List.getElem?_take, if_pos hjn, List.getElem?_drop, hL1 (i + j) (by omega)] at hj
        exact HO.out v (List.mem_iff_getElem?.2 ⟨_, hj⟩)
      have HL1 := hide hL1
      clear hL1
      have hgd : w3.drew.heap[g]? = some (.cells L.toArray 27 (0, 0)) := HG3.out
      by_cases hcap : cap = i + 1
      · obtain rfl : i = n := by omega
        have hrun : ∀ (d a : Option Addr) (dCap sLen sCap : Nat), (Builtin.copy_ #[36, 36] 3 #[.slice d 0 dCap, .slice a sLen sCap]).run Try.prog w3.drew = .ok (.int .i64 ((0 : Nat) : Int)) w3.drew := fun d a dCap sLen sCap =>
          run_copy_none (P := Try.prog) w3.drew 36 36 3 27 d a 0 dCap sLen sCap Try.underlying36 Try.size27 (by simp)
        clear hone2
        go_region_held3 (fun w' => w'.cell? ⟨Sb, 0, none⟩ = some (.slice (some ⟨g, 0, none⟩) (i + 1) cap)) (first | (go_keep; done)) (fail)
        obtain ⟨w4, hw4⟩ : ∃ w4, w4 = w3.drew := ⟨_, rfl⟩
        have hk4 : KeepBut g w3.drew w4 := by rw [hw4]; exact ⟨rfl, rfl, rfl, Nat.le_refl _, fun _ _ _ => rfl⟩
        have hS4 : w4.cell? ⟨Sb, 0, none⟩ = some (.slice (some ⟨g, 0, none⟩) (i + 1) cap) := by rw [hw4]; exact hS3
        have hg4 : w4.heap[g]? = some (.cells (splice L (i + 1) ((L.drop i).take (i - i))).toArray 27 (0, 0)) := by rw [hw4, hgd]; simp [splice]
        rw [← hw4]
        clear hgd hrun hw4
        have hlen := splice_length (L := L) (d := i + 1) (m := i - i) (s := i) (by omega) (by omega)
        obtain ⟨v0, hv0⟩ : ∃ v0, w4.cell? ⟨g, i, none⟩ = some v0 := ⟨_, by rw [cell_list hg4, List.getElem?_eq_getElem (by omega)]⟩
        have hf4 := free_list hg4 i
        have HG4 := hide hg4
        clear hg4
        go_wp2
        go_end0
        refine ⟨rfl, ⟨?_, ?_, ?_, ?_, fun k hk hs => ?_⟩, g, cap, ?_, hgw, fun k v hv => ?_⟩
        · exact hk4.os.trans hk3.os
        · exact hk4.tape.trans hk3.tape
        · exact hk4.output.trans hk3.output
        · have h1 := hk4.size; have h2 := hk3.size
          have h3 : w3.heap.size ≤ w4.heap.size := h1
          simp [World.setCell]; omega
        · rw [Below.heap_setCell _ _ _ _ (show k ≠ g by omega), hk4.block k (by have := hk3.size; show k < w3.heap.size; omega) (by omega)]
          exact hk3.block k hk hs
        · rw [World.cell?_setCell_far _ _ _ _ hgS, hn]; exact hS4
        · exact set_list HG4.out (by omega) _ k v (ins_get hn hi (by omega) HL1.out _ k v hv)
      · obtain ⟨w4, hrun, hg4, hk4⟩ := copy_self 36 27 Try.underlying36 Try.size27 w3.drew g L 27 hgd (i + 1) (n - i) i (n + 1 - i) (n - i) (by simp [Nat.min_def]; omega) (by omega) (by omega) hone2
        clear hone2 hgd
        have hS4 : w4.cell? ⟨Sb, 0, none⟩ = some (.slice (some ⟨g, 0, none⟩) (n + 1) cap) := by
          rw [World.cell?_of_block (w := w3.drew) (a := ⟨Sb, 0, none⟩) (hk4.block Sb (by have := hk3.size; show Sb < w3.heap.size; omega) hgS.symm)]
          exact hS3
        go_region_held3 (fun w' => w'.cell? ⟨Sb, 0, none⟩ = some (.slice (some ⟨g, 0, none⟩) (n + 1) cap)) (first | (go_keep; done)) (fail)
        have hlen := splice_length (L := L) (d := i + 1) (m := n - i) (s := i) (by omega) (by omega)
        obtain ⟨v0, hv0⟩ : ∃ v0, w4.cell? ⟨g, i, none⟩ = some v0 := ⟨_, by rw [cell_list hg4, List.getElem?_eq_getElem (by omega)]⟩
        have hf4 := free_list hg4 i
        have HG4 := hide hg4
        clear hg4
        go_wp2
        go_end0
        refine ⟨rfl, ⟨?_, ?_, ?_, ?_, fun k hk hs => ?_⟩, g, cap, ?_, hgw, fun k v hv => ?_⟩
        · exact hk4.os.trans hk3.os
        · exact hk4.tape.trans hk3.tape
        · exact hk4.output.trans hk3.output
        · have h1 := hk4.size; have h2 := hk3.size
          have h3 : w3.heap.size ≤ w4.heap.size := h1
          simp [World.setCell]; omega
        · rw [Below.heap_setCell _ _ _ _ (show k ≠ g by omega), hk4.block k (by have := hk3.size; show k < w3.heap.size; omega) (by omega)]
          exact hk3.block k hk hs
        · rw [World.cell?_setCell_far _ _ _ _ hgS, hn]; exact hS4
        · exact set_list HG4.out (by omega) _ k v (ins_get hn hi (by omega) HL1.out _ k v hv)
end Go.Proofs.Qxb6602318a.Pi
