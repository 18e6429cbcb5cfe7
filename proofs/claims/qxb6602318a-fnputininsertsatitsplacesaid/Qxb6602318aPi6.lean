import Derived.Test.Qxb6602318aPi5
import Derived.Lib.SliceRun
import Derived.Deep.CutRange
namespace Go.Proofs.Qxb6602318a.Pi
open Go.RowKit
open Go.Proofs.Qxb6602318a.Sd (hide vi ret_bool wrap_in Fits rowIs_below)
attribute [local go_sem] Go.wp_at_zero Go.wp_at_succ

/-- id put in at place p. -/
def ins (ss : List ByteArray) (p : Nat) (id : ByteArray) : List ByteArray := ss.take p ++ id :: ss.drop p
theorem ins_length (ss : List ByteArray) (p : Nat) (id : ByteArray) (h : p ≤ ss.length) : (ins ss p id).length = ss.length + 1 := by simp [ins]; omega
theorem strs_ins (ss : List ByteArray) (p : Nat) (id : ByteArray) : strs (ins ss p id) = (strs ss).take p ++ .string id :: (strs ss).drop p := by simp [strs, ins, List.map_take, List.map_drop]

/-- The set in memory, as zzCopyRuns and ZZNewSortedIDs leave it. -/
structure Set0 (w : World) (Sb G n : Nat) (rs : List (List ByteArray)) (V : Nat → Value) : Prop where
  field : w.cell? ⟨Sb, 0, none⟩ = some (.slice (some ⟨G, 0, none⟩) n n)
  ffree : w.frozen? ⟨Sb, 0, none⟩ = false
  GS : G < Sb
  outer : w.rowIs G 27 n V
  rows : ∀ k, k < n → ∃ a, V k = .slice a (rs.getD k []).length (rs.getD k []).length ∧ (0 < (rs.getD k []).length → ∃ b, G < b ∧ b < Sb ∧ a = some ⟨b, 0, none⟩ ∧ w.rowIs b 9 (rs.getD k []).length (fun j => .string ((rs.getD k []).getD j ByteArray.empty)))

theorem Try.size9 : (Try.prog.info? 9).map (·.size) = some 1 := by kernel_rfl

/-- The run behind 'append(ownRun(..), "")': a row of its own, new. -/
structure Run2 (w w2 : World) (g cap l : Nat) (L : List Value) (ss : List ByteArray) : Prop where
  bel : Below w.heap.size w w2
  gw : w.heap.size ≤ g
  hg : w2.heap[g]? = some (.cells L.toArray 9 (0, 0))
  len : L.length = cap
  fit : l + 1 ≤ cap
  pre : ∀ j, j < l → L[j]? = (strs ss)[j]?
theorem Run2.of {w w2 : World} {g cap l base : Nat} {ss : List ByteArray} (hb : Below w.heap.size w w2) (hl : ss.length = l) (hbase : w.heap.size ≤ base) (h : w2.ownsRow base 9 1 (.slice (some ⟨g, 0, none⟩) (l + 1) cap) (l + 1) (strs ss ++ [.string ByteArray.empty])) : ∃ L, Run2 w w2 g cap l L ss := by
  rcases h.2 with ⟨h0, _⟩ | ⟨g', cap', cur, hv, hb', hg, h1, h2, h3, h4⟩
  · cases h0
  · injection hv with e1 _ e2
    injection e1 with e1
    injection e1 with e1 _ _
    subst e1 e2
    refine ⟨cur.toList, hb, by omega, by simpa using hg, by simpa using h3, h1, fun j hj => ?_⟩
    have e : (cur.toList.take ((l + 1) * 1))[j]? = (strs ss ++ [.string ByteArray.empty])[j]? := by rw [h4]
    rw [List.getElem?_take, if_pos (by omega), List.getElem?_append_left (by simp [strs]; omega)] at e
    exact e

/-- The run behind 'copy(run[at+1:], run[at:])', ahead of the store. -/
structure Run3 (w w4 : World) (g cap l p : Nat) (ss : List ByteArray) : Prop where
  bel : Below w.heap.size w w4
  gw : w.heap.size ≤ g
  row : ∃ L : List Value, w4.heap[g]? = some (.cells L.toArray 9 (0, 0)) ∧ L.length = cap ∧ ∀ id k v, (strs (ins ss p id))[k]? = some v → (if p = k then some (.string id) else L[k]?) = some v
  fit : l + 1 ≤ cap
theorem Run2.shift {w w2 w4 : World} {g cap l p : Nat} {L : List Value} {ss : List ByteArray} (h : Run2 w w2 g cap l L ss) (hl : ss.length = l) (hp : p ≤ l) (hk : KeepBut g w2.drew w4)
    (h4 : w4.heap[g]? = some (.cells (splice L (p + 1) ((L.drop p).take (l - p))).toArray 9 (0, 0))) : Run3 w w4 g cap l p ss := by
  have h1 := h.len
  have h2 := h.fit
  have hd : Below w.heap.size w w2.drew := h.bel.drew
  refine ⟨hd.trans (hk.below h.gw h.bel.size), h.gw, ⟨_, h4, ?_, fun id k v hv => ?_⟩, h.fit⟩
  · rw [splice_length (by omega) (by omega)]; exact h1
  · rw [strs_ins] at hv
    exact ins_get (by simp [strs, hl]) hp (by omega) h.pre _ k v hv
theorem Run2.one {w w2 : World} {g cap l : Nat} {L : List Value} {ss : List ByteArray} (h : Run2 w w2 g cap l L ss) (p : Nat) : ∀ v ∈ (L.drop p).take (l - p), v.oneCell' = true := fun v hv => by
  obtain ⟨j, hj⟩ := List.mem_iff_getElem?.1 hv
  have hjn : j < l - p := by
    rcases Nat.lt_or_ge j (l - p) with h | h
    · exact h
    · rw [List.getElem?_take, if_neg (by omega)] at hj; cases hj
  rw [List.getElem?_take, if_pos hjn, List.getElem?_drop, h.pre (p + j) (by omega)] at hj
  exact strs_one ss v (List.mem_iff_getElem?.2 ⟨_, hj⟩)

theorem Run2.copies {w w2 : World} {g cap l p : Nat} {L : List Value} {ss : List ByteArray} (h : Run2 w w2 g cap l L ss) (hl : ss.length = l) (hp : p ≤ l) :
    ∃ w4, (cap = p + 1 → ∀ dCap sCap, (Builtin.copy_ #[27, 27] 3 #[.slice (some ⟨g, 0, none⟩) (l - p) dCap, .slice (some ⟨g, p, none⟩) (l + 1 - p) sCap]).run Try.prog w2.drew = .ok (.int .i64 ((l - p : Nat) : Int)) w4) ∧
      (¬ cap = p + 1 → ∀ dCap sCap, (Builtin.copy_ #[27, 27] 3 #[.slice (some ⟨g, p + 1, none⟩) (l - p) dCap, .slice (some ⟨g, p, none⟩) (l + 1 - p) sCap]).run Try.prog w2.drew = .ok (.int .i64 ((l - p : Nat) : Int)) w4) ∧ Run3 w w4 g cap l p ss := by
  have hgd : w2.drew.heap[g]? = some (.cells L.toArray 9 (0, 0)) := h.hg
  have h1 := h.len
  have h2 := h.fit
  by_cases hc : cap = p + 1
  · have e0 : l - p = 0 := by omega
    refine ⟨w2.drew, fun _ dCap sCap => ?_, fun h => absurd hc h, h.shift hl hp ⟨rfl, rfl, rfl, Nat.le_refl _, fun _ _ _ => rfl⟩ ?_⟩
    · rw [e0]
      exact run_copy_none (P := Try.prog) w2.drew 27 27 3 9 _ _ 0 dCap (l + 1 - p) sCap Try.underlying27 Try.size9 (by simp)
    · rw [e0, hgd]; simp [splice]
  · obtain ⟨w4, hrun, h4, hk4⟩ := copy_self 27 9 Try.underlying27 Try.size9 w2.drew g L 9 hgd (p + 1) (l - p) p (l + 1 - p) (l - p) (by simp [Nat.min_def]; omega) (by omega) (by omega) (h.one p)
    exact ⟨w4, fun h => absurd h hc, fun _ dCap sCap => hrun dCap sCap, h.shift hl hp hk4 h4⟩

/-- The run behind the store. -/
structure Run5 (w w5 : World) (g cap : Nat) (rr : List ByteArray) : Prop where
  bel : Below w.heap.size w w5
  gw : w.heap.size ≤ g
  row : ∃ L : List Value, w5.heap[g]? = some (.cells L.toArray 9 (0, 0)) ∧ L.length = cap ∧ ∀ (k : Nat) (v : Value), (strs rr)[k]? = some v → L[k]? = some v
  fit : rr.length ≤ cap
theorem Run3.store {w w4 : World} {g cap l p : Nat} {ss : List ByteArray} (h : Run3 w w4 g cap l p ss) (hl : ss.length = l) (hp : p ≤ l) (id : ByteArray) : Run5 w (w4.setCell ⟨g, p, none⟩ (.string id)) g cap (ins ss p id) := by
  obtain ⟨L, h1, h2, h3⟩ := h.row
  have hf := h.fit
  refine ⟨h.bel.setCell h.gw _, h.gw, ⟨L.set p (.string id), ?_, by simpa using h2, fun k v hv => ?_⟩, by rw [ins_length _ _ _ (by omega), hl]; exact hf⟩
  · simp [World.setCell, Array.getElem?_modify, h1]
  · have := h3 id k v hv
    rw [List.getElem?_set]
    by_cases e : p = k
    · rw [if_pos e] at this ⊢
      rw [if_pos (by omega)]; exact this
    · rw [if_neg e] at this ⊢; exact this
theorem Run5.cell {w w5 : World} {g cap : Nat} {rr : List ByteArray} (h : Run5 w w5 g cap rr) {j : Nat} (hj : j < rr.length) : w5.cell? ⟨g, j, none⟩ = some (.string (rr.getD j ByteArray.empty)) := by
  obtain ⟨L, h1, _, h3⟩ := h.row
  rw [cell_list h1]
  exact h3 j _ (by simp [strs, List.getElem?_eq_getElem hj])
theorem Run5.lt {w w5 : World} {g cap : Nat} {rr : List ByteArray} (h : Run5 w w5 g cap rr) : g < w5.heap.size := by
  obtain ⟨L, h1, _⟩ := h.row
  exact (Array.getElem?_eq_some_iff.1 h1).1

/-- All but blocks G and S is as it was. -/
structure Keep2 (G S : Nat) (w w' : World) : Prop where
  os : w'.os = w.os
  tape : w'.tape = w.tape
  output : w'.output = w.output
  size : w.heap.size ≤ w'.heap.size
  block : ∀ k, k < w.heap.size → k ≠ G → k ≠ S → w'.heap[k]? = w.heap[k]?
theorem Keep2.below {G S : Nat} {w w' : World} (h : Keep2 G S w w') {B : Nat} (h1 : B ≤ G) (h2 : B ≤ S) (h3 : B ≤ w.heap.size) : Below B w w' := ⟨h.os, h.tape, h.output, h.size, fun k hk => h.block k (by omega) (by omega) (by omega)⟩
/-- What putIn leaves. -/
def PutPost (w w' : World) (Sb G : Nat) (rs' : List (List ByteArray)) : Prop :=
  Keep2 G Sb w w' ∧ ∃ g cap, w'.cell? ⟨Sb, 0, none⟩ = some (.slice (some ⟨g, 0, none⟩) rs'.length cap) ∧ RunsAt w' g rs'

/-- An old run reads as it did where its block is as it was. -/
theorem Set0.runVal {w w' : World} {Sb G n : Nat} {rs : List (List ByteArray)} {V : Nat → Value} (h : Set0 w Sb G n rs V) (hk : ∀ b, G < b → b < Sb → w'.heap[b]? = w.heap[b]?) {k : Nat} (hkn : k < n) : RunVal w' (V k) (rs.getD k []) := by
  obtain ⟨a, hV, hrow⟩ := h.rows k hkn
  refine ⟨a, _, hV, fun h0 => ?_⟩
  obtain ⟨b, h1, h2, h3, h4⟩ := hrow h0
  exact ⟨b, 0, h3, fun j hj => by rw [Nat.zero_add]; exact (h4.of_block (hk b h1 h2)).cell hj⟩

theorem mid_getD {α : Type} (l : List α) (i : Nat) (x d : α) (hi : i < l.length) (k : Nat) : (l.take i ++ x :: l.drop (i + 1)).getD k d = if k = i then x else l.getD k d := by
  have hl : (l.take i).length = i := by simp; omega
  unfold List.getD
  rcases Nat.lt_trichotomy k i with h | h | h
  · rw [List.getElem?_append_left (by omega), List.getElem?_take, if_pos h, if_neg (by omega)]
  · subst h; rw [List.getElem?_append_right (by omega), hl]; simp
  · rw [List.getElem?_append_right (by omega), hl, if_neg (by omega), show k - i = (k - i - 1) + 1 by omega, List.getElem?_cons_succ, List.getElem?_drop, show i + 1 + (k - i - 1) = k by omega]

theorem put_small {w w5 : World} {Sb G n g cap i : Nat} {rs : List (List ByteArray)} {V : Nat → Value} {rr : List ByteArray} (h : Set0 w Sb G n rs V) (hrs : rs.length = n) (hi : i < n) (h5 : Run5 w w5 g cap rr) :
    PutPost w (w5.setCell ⟨G, i, none⟩ (.slice (some ⟨g, 0, none⟩) rr.length cap)) Sb G (rs.take i ++ rr :: rs.drop (i + 1)) := by
  have hGS := h.GS
  have hSlt := cell_lt h.field
  have hgw := h5.gw
  have hlen : (rs.take i ++ rr :: rs.drop (i + 1)).length = n := by simp; omega
  have hblk : ∀ b, b ≠ G → b < w.heap.size → (w5.setCell ⟨G, i, none⟩ (.slice (some ⟨g, 0, none⟩) rr.length cap)).heap[b]? = w.heap[b]? := fun b hb hlt => by
    rw [Below.heap_setCell _ _ _ _ hb]; exact h5.bel.block b hlt
  refine ⟨⟨h5.bel.os, h5.bel.tape, h5.bel.output, by have := h5.bel.size; simp [World.setCell]; exact this, fun k hk h1 _ => hblk k h1 hk⟩, G, n, ?_, fun k hk => ?_⟩
  · rw [hlen, World.cell?_of_block (w := w) (a := ⟨Sb, 0, none⟩) (hblk Sb (by omega) hSlt)]
    exact h.field
  · rw [hlen] at hk
    rw [mid_getD rs i rr [] (by omega) k]
    have hrow := rowIs_below h.outer h5.bel (by omega)
    have hset := (hrow.set i (.slice (some ⟨g, 0, none⟩) rr.length cap)).cell hk
    by_cases e : k = i
    · subst e
      rw [if_pos rfl]
      refine ⟨.slice (some ⟨g, 0, none⟩) rr.length cap, by simpa using hset, some ⟨g, 0, none⟩, cap, rfl, fun _ => ⟨g, 0, rfl, fun j hj => ?_⟩⟩
      rw [Nat.zero_add, World.cell?_setCell_far _ _ _ _ (show G ≠ g by omega)]
      exact h5.cell hj
    · rw [if_neg e]
      refine ⟨V k, by simpa [e] using hset, h.runVal (fun b h1 h2 => hblk b (by omega) (by omega)) hk⟩

theorem setCells_far {g b : Nat} (hb : b ≠ g) : ∀ (vs : List Value) (o : Nat) (w : World), (w.setCells g o vs).heap[b]? = w.heap[b]? := by
  intro vs
  induction vs with
  | nil => intro o w; rfl
  | cons v vs ih => intro o w; rw [World.setCells, ih]; exact Below.heap_setCell _ _ _ _ hb

theorem setCells_same {g : Nat} : ∀ (vs : List Value) (o : Nat) (w : World), (w.setCells g o vs).os = w.os ∧ (w.setCells g o vs).tape = w.tape ∧ (w.setCells g o vs).output = w.output ∧ (w.setCells g o vs).heap.size = w.heap.size := by
  intro vs
  induction vs with
  | nil => intro o w; exact ⟨rfl, rfl, rfl, rfl⟩
  | cons v vs ih =>
    intro o w
    rw [World.setCells]
    obtain ⟨h1, h2, h3, h4⟩ := ih (o + 1) (w.setCell ⟨g, o, none⟩ v)
    exact ⟨h1, h2, h3, by rw [h4]; simp [World.setCell]⟩

theorem mid2_getD {α : Type} (l : List α) (i : Nat) (x y d : α) (hi : i < l.length) (k : Nat) : (l.take i ++ x :: y :: l.drop (i + 1)).getD k d = if k < i then l.getD k d else if k = i then x else if k = i + 1 then y else l.getD (k - 1) d := by
  have hl : (l.take i).length = i := by simp; omega
  unfold List.getD
  rcases Nat.lt_trichotomy k i with h | h | h
  · rw [List.getElem?_append_left (by omega), List.getElem?_take, if_pos h, if_pos h]
  · subst h; rw [List.getElem?_append_right (by omega), hl]; simp
  · rw [List.getElem?_append_right (by omega), hl, if_neg (by omega), if_neg (by omega)]
    by_cases e : k = i + 1
    · rw [if_pos e, e, show i + 1 - i = 1 by omega]; rfl
    · rw [if_neg e, show k - i = (k - i - 2) + 1 + 1 by omega, List.getElem?_cons_succ, List.getElem?_cons_succ, List.getElem?_drop, show i + 1 + (k - i - 2) = k - 1 by omega]

/-- The outer cells as a list. -/
def outerList (n : Nat) (V : Nat → Value) : List Value := (List.range n).map V
theorem outerList_get {n : Nat} {V : Nat → Value} {k : Nat} {v : Value} (h : (outerList n V)[k]? = some v) : k < n ∧ V k = v := by
  have hk : k < n := by have := (List.getElem?_eq_some_iff.1 h).1; simpa [outerList] using this
  refine ⟨hk, ?_⟩
  simpa [outerList, hk] using h
theorem outerList_length (n : Nat) (V : Nat → Value) : (outerList n V).length = n := by simp [outerList]

/-- V with place i changed. -/
def upd (V : Nat → Value) (i : Nat) (v : Value) : Nat → Value := fun p => if p = i then v else V p

theorem ins_outer {n i : Nat} {V : Nat → Value} {x : Value} (hi : i < n) (k : Nat) (hk : k < n + 1) : ((outerList n V).take (i + 1) ++ x :: (outerList n V).drop (i + 1))[k]? = some (if k ≤ i then V k else if k = i + 1 then x else V (k - 1)) := by
  have hl : ((outerList n V).take (i + 1)).length = i + 1 := by rw [List.length_take, outerList_length]; omega
  have hg : ∀ q, q < n → (outerList n V)[q]? = some (V q) := fun q hq => by simp [outerList, hq]
  by_cases h : k ≤ i
  · rw [List.getElem?_append_left (by omega), List.getElem?_take, if_pos (by omega), if_pos h, hg k (by omega)]
  · rw [List.getElem?_append_right (by omega), hl, if_neg h]
    by_cases e : k = i + 1
    · rw [if_pos e, e, Nat.sub_self]; rfl
    · rw [if_neg e, show k - (i + 1) = (k - i - 2) + 1 by omega, List.getElem?_cons_succ, List.getElem?_drop, show i + 1 + (k - i - 2) = k - 1 by omega, hg _ (by omega)]

theorem put_split {w w5 w6 w8 w9 : World} {Sb G n g cap i hf : Nat} {rs : List (List ByteArray)} {V : Nat → Value} {rr : List ByteArray} {v6 : Value} (h : Set0 w Sb G n rs V) (hrs : rs.length = n) (hi : i < n) (h5 : Run5 w w5 g cap rr) (hhf : hf ≤ rr.length)
    (h6 : Below w5.heap.size w5 w6) (o6 : w6.ownsRow w5.heap.size 9 1 v6 (rr.drop hf).length (strs (rr.drop hf))) (hlow : (rr.take hf).length = hf)
    (h8 : KeepBut G (w6.setCells g hf (List.replicate (rr.length - hf) (.string ByteArray.empty))) w8)
    (hI : Inserted w8 w9 Sb (i + 1) (outerList n (upd V i (.slice (some ⟨g, 0, none⟩) hf cap))) v6) :
    PutPost w w9 Sb G (rs.take i ++ rr.take hf :: rr.drop hf :: rs.drop (i + 1)) := by
  obtain ⟨hK, g9, cap9, hc9, hg9, hcells⟩ := hI
  have hGS := h.GS
  have hSlt := cell_lt h.field
  have hgw := h5.gw
  have hglt := h5.lt
  have h5s := h5.bel.size
  have h6s := h6.size
  obtain ⟨q1, q2, q3, h7s⟩ := setCells_same (g := g) (List.replicate (rr.length - hf) (.string ByteArray.empty)) hf w6
  have h8s := h8.size
  have hlen : (rs.take i ++ rr.take hf :: rr.drop hf :: rs.drop (i + 1)).length = n + 1 := by simp; omega
  rw [outerList_length] at hc9
  -- a block other than Sb, G and g is as it was behind newRun
  have hb69 : ∀ b, b ≠ Sb → b ≠ G → b ≠ g → b < w6.heap.size → w9.heap[b]? = w6.heap[b]? := fun b h1 h2 h3 h4 => by
    rw [hK.block b (by omega) h1, h8.block b (by omega) h2]
    exact setCells_far h3 _ _ _
  have hold : ∀ b, b ≠ Sb → b ≠ G → b < w.heap.size → w9.heap[b]? = w.heap[b]? := fun b h1 h2 h3 => by
    rw [hb69 b h1 h2 (by omega) (by omega), h6.block b (by omega), h5.bel.block b h3]
  refine ⟨⟨?_, ?_, ?_, ?_, fun k hk h1 h2 => hold k h2 h1 hk⟩, g9, cap9, by rw [hlen]; exact hc9, fun k hk => ?_⟩
  · exact hK.os.trans (h8.os.trans (q1.trans (h6.os.trans h5.bel.os)))
  · exact hK.tape.trans (h8.tape.trans (q2.trans (h6.tape.trans h5.bel.tape)))
  · exact hK.output.trans (h8.output.trans (q3.trans (h6.output.trans h5.bel.output)))
  · have := hK.size; omega
  · rw [hlen] at hk
    rw [mid2_getD rs i _ _ [] (by omega) k]
    have hcell := hcells k _ (ins_outer hi k hk)
    by_cases e1 : k < i
    · rw [if_pos (by omega)] at hcell
      rw [if_pos e1]
      refine ⟨_, hcell, ?_⟩
      rw [upd, if_neg (by omega)]
      exact h.runVal (fun b h1 h2 => hold b (by omega) (by omega) (by omega)) (by omega)
    · rw [if_neg e1]
      by_cases e2 : k = i
      · rw [if_pos (by omega)] at hcell
        rw [if_pos e2]
        refine ⟨_, hcell, ?_⟩
        rw [upd, if_pos e2]
        refine ⟨some ⟨g, 0, none⟩, cap, by rw [hlow], fun _ => ⟨g, 0, rfl, fun j hj => ?_⟩⟩
        rw [hlow] at hj
        rw [Nat.zero_add, World.cell?_of_block (w := w8) (a := ⟨g, j, none⟩) (hK.block g (by omega) (by omega)), World.cell?_of_block (w := w6.setCells g hf _) (a := ⟨g, j, none⟩) (h8.block g (by omega) (by omega)),
          World.cell?_setCells_out g _ _ _ _ (fun _ _ => .inl hj), h6.cell (p := ⟨g, j, none⟩) hglt, h5.cell (by omega)]
        simp [hj]
      · rw [if_neg (by omega)] at hcell
        rw [if_neg e2]
        by_cases e3 : k = i + 1
        · rw [if_pos e3] at hcell ⊢
          refine ⟨_, hcell, ?_⟩
          obtain ⟨a, c, hv, hrow⟩ := Owns.val o6
          refine ⟨a, c, hv, fun h0 => ?_⟩
          obtain ⟨b, o, hb, hcs⟩ := hrow h0
          refine ⟨b, o, hb, fun j hj => ?_⟩
          have hblt := cell_lt (hcs j hj)
          have hbb : w5.heap.size ≤ b := by
            rcases o6.2 with ⟨rfl, hz⟩ | ⟨g', cap', cur, hv', hb', _⟩
            · omega
            · rw [hv] at hv'
              injection hv' with e1 _ _
              rw [hb] at e1
              injection e1 with e1
              injection e1 with e1 _ _
              omega
          rw [World.cell?_of_block (w := w6) (a := ⟨b, o + j, none⟩) (hb69 b (by omega) (by omega) (by omega) hblt)]
          exact hcs j hj
        · rw [if_neg e3] at hcell ⊢
          refine ⟨_, hcell, ?_⟩
          rw [upd, if_neg (by omega)]
          exact h.runVal (fun b h1 h2 => hold b (by omega) (by omega) (by omega)) (by omega)
end Go.Proofs.Qxb6602318a.Pi
