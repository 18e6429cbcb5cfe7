import Derived.Test.Qxb6602318aSd2
import Derived.Deep.DrawnRows
namespace Go.Proofs.Qxb6602318a.Sd
open Go.RowKit
attribute [local go_sem] Go.wp_at_zero Go.wp_at_succ

theorem cell_al {W : World} {a : Addr} {v : Value} (o : Obj) (h : W.cell? a = some v) : (W.alloc o).cell? a = some v := by
  rw [World.cell?_alloc_some W a o (by rw [h]; rfl)]; exact h
theorem cell_al3 {W : World} {a : Addr} {v : Value} {o1 o2 o3 : Obj} (h : W.cell? a = some v) : (((W.alloc o1).alloc o2).alloc o3).drew.cell? a = some v :=
  cell_al o3 (cell_al o2 (cell_al o1 h))

theorem frozen_al3 {W : World} {g : Nat} {o1 o2 o3 : Obj} (hg : g < W.heap.size) (h : ∀ p, W.frozen? ⟨g, p, none⟩ = false) : ∀ p, (((W.alloc o1).alloc o2).alloc o3).drew.frozen? ⟨g, p, none⟩ = false := fun p => by
  show (((W.alloc o1).alloc o2).alloc o3).frozen? ⟨g, p, none⟩ = false
  rw [World.frozen?_alloc_past _ _ _ (by simp; omega), World.frozen?_alloc_past _ _ _ (by simp; omega), World.frozen?_alloc_past _ _ _ hg]
  exact h p

theorem cell_st2 {W : World} {g p p' b o : Nat} {x y v : Value} (hne : g ≠ b) (h : W.cell? ⟨b, o, none⟩ = some v) : ((W.setCell ⟨g, p, none⟩ x).setCell ⟨g, p', none⟩ y).cell? ⟨b, o, none⟩ = some v := by
  rw [World.cell?_setCell_far _ _ _ _ hne, World.cell?_setCell_far _ _ _ _ hne]; exact h

theorem new41 (a1 a2 : Addr) (w : World) :
    Calls Try.prog 41 #[.slice (some a1) 1 1, .slice (some a2) 1 1] w fun e w' => e = .returned (.agg #[.slice (some a1) 1 1, .slice (some a2) 1 1]) ∧ w' = w.alloc (.cells #[.slice (some a1) 1 1, .slice (some a2) 1 1] 50) := by
  go_enter Try.func41, Try.ntmps41
  go_wp2
  exact bodyPost_ret (v := .agg #[.slice (some a1) 1 1, .slice (some a2) 1 1]) (by simp [results, Try.results41, go_sem]) rfl ⟨rfl, rfl⟩

theorem Try.info9 : (Try.prog.info? 9).map (fun i => (i.zero, i.size, i.bytes)) = some (some (.string ByteArray.empty), 1, 16) := by kernel_rfl
theorem Try.info50 : (Try.prog.info? 50).map (fun i => (i.zero, i.size, i.bytes)) = some (some (.agg #[.slice none 0 0, .slice none 0 0]), 2, 48) := by kernel_rfl

theorem make50 (n : Nat) (hn : n ≤ 65536) (w : World) : (Instr.makeSlice 30 (.int .i64 (n : Int)) (.int .i64 (n : Int))).run Try.prog w =
    .ok (.slice (some ⟨w.heap.size, 0, none⟩) n n) (w.alloc (.cells (madeCells #[.slice none 0 0, .slice none 0 0] (n * 2)) 50)) := by
  obtain ⟨i, hi, h1, h2, h3⟩ := info_parts Try.info50
  have := run_make (P := Try.prog) w 30 50 i _ Try.underlying30 hi h1 .i64 .i64 n n (by omega) (Int.le_refl _) (by rw [h3]; omega) (by omega)
  rw [h2] at this
  simp only [Int.toNat_natCast] at this
  exact this

/-- The first k heads are made. -/
structure Tag (w : World) (k n : Nat) (ss : List ByteArray) (Hb : Nat) (rb sb : Nat → Nat) : Prop where
  row : ∃ cur, w.heap[Hb]? = some (.cells cur 50 (0, 0)) ∧ cur.size = n * 2
  run : ∀ p, p < k → w.cell? ⟨Hb, p * 2, none⟩ = some (.slice (some ⟨rb p, 0, none⟩) 1 1)
  rest : ∀ p, p < k → w.cell? ⟨Hb, p * 2 + 1, none⟩ = some (.slice (some ⟨sb p, 0, none⟩) 1 1)
  key : ∀ o, o < k → w.cell? ⟨rb o, 0, none⟩ = some (.string (ss.getD o ByteArray.empty))
  mark : ∀ o, o < k → ∃ a, w.cell? ⟨sb o, 0, none⟩ = some (.slice a (n - o) (n - o))
  apart : ∀ o, o < k → rb o ≠ Hb ∧ sb o ≠ Hb

theorem Tag.cell {w : World} {k n : Nat} {ss : List ByteArray} {Hb : Nat} {rb sb : Nat → Nat} (h : Tag w k n ss Hb rb sb) (p : Nat) (hp : p < n * 2) : ∃ v, w.cell? ⟨Hb, p, none⟩ = some v := by
  obtain ⟨cur, hc, hs⟩ := h.row
  refine ⟨cur[p], ?_⟩
  simp [World.cell?, hc, show p < cur.size by omega]
theorem Tag.free {w : World} {k n : Nat} {ss : List ByteArray} {Hb : Nat} {rb sb : Nat → Nat} (h : Tag w k n ss Hb rb sb) (p : Nat) : w.frozen? ⟨Hb, p, none⟩ = false := by
  obtain ⟨cur, hc, hs⟩ := h.row
  simp [World.frozen?, hc]

theorem Tag.step {wr w1 : World} {k n : Nat} {ss : List ByteArray} {Hb : Nat} {rb sb : Nat → Nat} (h : Tag wr k n ss Hb rb sb) (hk : k < n) (ext : ∀ a v, wr.cell? a = some v → w1.cell? a = some v) (hrow : w1.heap[Hb]? = wr.heap[Hb]?)
    (r s : Nat) (a : Option Addr) (hr : w1.cell? ⟨r, 0, none⟩ = some (.string (ss.getD k ByteArray.empty))) (hs : w1.cell? ⟨s, 0, none⟩ = some (.slice a (n - k) (n - k))) (hrn : r ≠ Hb) (hsn : s ≠ Hb) :
    ∃ rb' sb', Tag ((w1.setCell ⟨Hb, k * 2, none⟩ (.slice (some ⟨r, 0, none⟩) 1 1)).setCell ⟨Hb, k * 2 + 1, none⟩ (.slice (some ⟨s, 0, none⟩) 1 1)) (k + 1) n ss Hb rb' sb' := by
  obtain ⟨v1, hv1⟩ := h.cell (k * 2) (by omega)
  obtain ⟨v2, hv2⟩ := h.cell (k * 2 + 1) (by omega)
  have in1 : ∀ q u, w1.cell? ⟨Hb, q, none⟩ = some u → ((w1.setCell ⟨Hb, k * 2, none⟩ (.slice (some ⟨r, 0, none⟩) 1 1)).setCell ⟨Hb, k * 2 + 1, none⟩ (.slice (some ⟨s, 0, none⟩) 1 1)).cell? ⟨Hb, q, none⟩ =
      some (if k * 2 + 1 = q then .slice (some ⟨s, 0, none⟩) 1 1 else if k * 2 = q then .slice (some ⟨r, 0, none⟩) 1 1 else u) := by
    intro q u hu
    have e1 := cell_set _ ⟨Hb, k * 2, none⟩ (.slice (some ⟨r, 0, none⟩) 1 1) _ _ hu
    have e2 := cell_set _ ⟨Hb, k * 2 + 1, none⟩ (.slice (some ⟨s, 0, none⟩) 1 1) _ _ e1
    rw [e2]
    simp only [Addr.mk.injEq, true_and, and_true]
  refine ⟨fun o => if o = k then r else rb o, fun o => if o = k then s else sb o, ?_, fun p hp => ?_, fun p hp => ?_, fun o ho => ?_, fun o ho => ?_, fun o ho => ?_⟩
  · obtain ⟨cur, hc, hs'⟩ := h.row
    refine ⟨(cur.setIfInBounds (k * 2) (.slice (some ⟨r, 0, none⟩) 1 1)).setIfInBounds (k * 2 + 1) (.slice (some ⟨s, 0, none⟩) 1 1), ?_, by simpa using hs'⟩
    simp [World.setCell, Array.getElem?_modify, hrow, hc]
  · by_cases e : p = k
    · subst e
      rw [in1 _ _ (ext _ _ hv1), if_neg (by omega), if_pos rfl]
      simp
    · rw [in1 _ _ (ext _ _ (h.run p (by omega))), if_neg (by omega), if_neg (by omega)]
      simp [e]
  · by_cases e : p = k
    · subst e
      rw [in1 _ _ (ext _ _ hv2), if_pos rfl]
      simp
    · rw [in1 _ _ (ext _ _ (h.rest p (by omega))), if_neg (by omega), if_neg (by omega)]
      simp [e]
  · by_cases e : o = k
    · subst e
      simp only [if_true]
      exact cell_st2 hrn.symm hr
    · simp only [e, if_false]
      exact cell_st2 (h.apart o (by omega)).1.symm (ext _ _ (h.key o (by omega)))
  · by_cases e : o = k
    · subst e
      simp only [if_true]
      exact ⟨a, cell_st2 hsn.symm hs⟩
    · simp only [e, if_false]
      obtain ⟨a', ha'⟩ := h.mark o (by omega)
      exact ⟨a', cell_st2 (h.apart o (by omega)).2.symm (ext _ _ ha')⟩
  · by_cases e : o = k
    · simp only [e, if_true]; exact ⟨hrn, hsn⟩
    · simp only [e, if_false]; exact h.apart o (by omega)

theorem Tag.heads {w : World} {n : Nat} {ss : List ByteArray} {Hb : Nat} {rb sb : Nat → Nat} (h : Tag w n n ss Hb rb sb) : Heads w n ss Hb rb sb (fun p => p) :=
  ⟨h.run, h.rest, h.key, h.mark, h.free, h.apart, fun _ h => h⟩

/-- What zzTaggedHeads leaves. -/
def Tagged (w w' : World) (n : Nat) (ss : List ByteArray) : Prop := Below w.heap.size w w' ∧ w.heap.size + 1 < w'.heap.size ∧ ∃ rb sb, Heads w' n ss (w.heap.size + 1) rb sb (fun p => p)
/-- .. behind k rounds. -/
def TaggedTo (w w' : World) (k n : Nat) (ss : List ByteArray) : Prop := Below w.heap.size w w' ∧ w.heap.size + 1 < w'.heap.size ∧ ∃ rb sb, Tag w' k n ss (w.heap.size + 1) rb sb

theorem ext3 {wr : World} {o1 o2 o3 : Obj} : ∀ a v, wr.cell? a = some v → (((wr.alloc o1).alloc o2).alloc o3).drew.cell? a = some v := fun _ _ h => cell_al3 h
theorem new0 {W : World} {v : Value} {t : TypeId} {o2 o3 : Obj} : (((W.alloc (.cells #[v] t)).alloc o2).alloc o3).cell? ⟨W.heap.size, 0, none⟩ = some v :=
  cell_al _ (cell_al _ (by rw [World.cell?_alloc_at _ _ _ _ rfl]; rfl))
theorem new1 {W : World} {v : Value} {t : TypeId} {o1 o3 : Obj} : (((W.alloc o1).alloc (.cells #[v] t)).alloc o3).cell? ⟨W.heap.size + 1, 0, none⟩ = some v :=
  cell_al _ (by rw [World.cell?_alloc_at _ _ _ _ (by simp)]; rfl)
theorem TaggedTo.step {w wr : World} {k n : Nat} {ss : List ByteArray} (h : TaggedTo w wr k n ss) (hk : k < n) (o1 o2 o3 : Obj) (r s : Nat) (a : Option Addr)
    (hr : (((wr.alloc o1).alloc o2).alloc o3).cell? ⟨r, 0, none⟩ = some (.string (ss.getD k ByteArray.empty))) (hs : (((wr.alloc o1).alloc o2).alloc o3).cell? ⟨s, 0, none⟩ = some (.slice a (n - k) (n - k))) (hr1 : wr.heap.size ≤ r) (hs1 : wr.heap.size ≤ s) :
    TaggedTo w (((((wr.alloc o1).alloc o2).alloc o3).drew.setCell ⟨w.heap.size + 1, k * 2, none⟩ (.slice (some ⟨r, 0, none⟩) 1 1)).setCell ⟨w.heap.size + 1, k * 2 + 1, none⟩ (.slice (some ⟨s, 0, none⟩) 1 1)) (k + 1) n ss := by
  obtain ⟨hB, hS, rb, sb, hT⟩ := h
  refine ⟨?_, ?_, ?_⟩
  · refine Below.setCell (Below.setCell (Below.drew ?_) (by simp) _) (by simp) _
    exact ((hB.alloc (by omega) _).alloc (by simp; omega) _).alloc (by simp; omega) _
  · simp [World.setCell]; omega
  · refine hT.step hk ext3 ?_ r s a hr hs (by omega) (by omega)
    show (((wr.heap.push o1).push o2).push o3)[w.heap.size + 1]? = _
    rw [Array.getElem?_push, if_neg (by simp; omega), Array.getElem?_push, if_neg (by simp; omega), Array.getElem?_push, if_neg (by omega)]

set_option maxHeartbeats 1000000 in
theorem tagged_any (b off c : Nat) (ss : List ByteArray) (w : World) (n : Nat) (hss : ss.length = n) (hn : n ≤ 65536) (hc : Ids w b off ss) (hb : b < w.heap.size) :
    Calls Try.prog 21 #[.slice (some ⟨b, off, none⟩) n c] w fun e w' => e = .returned (.slice (some ⟨w.heap.size + 1, 0, none⟩) n n) ∧ Tagged w w' n ss := by
  have mk1 := run_make_row' (P := Try.prog) 27 9 (.string ByteArray.empty) 16 Try.underlying27 Try.info9 rfl .i64 .i64 n (by omega) (by omega)
  have mk2 := make50 n hn
  go_enter Try.func21, Try.ntmps21
  go_wp2
  go_loopw [6] (fun t wr => ∃ (k : Nat), k ≤ n ∧ t = .int .i64 k ∧ TaggedTo w wr k n ss) (fun t _ => n - (intOf t).toNat)
  case atStart =>
    refine ⟨0, Nat.zero_le _, rfl, ((Below.refl _ _).alloc (Nat.le_refl _) _).alloc (by simp) _, by simp, fun _ => 0, fun _ => 0, ⟨madeCells #[.slice none 0 0, .slice none 0 0] (n * 2), ?_, size_madeCells _ _⟩, ?_, ?_, ?_, ?_, ?_⟩
    · show ((w.heap.push _).push _)[w.heap.size + 1]? = _
      rw [Array.getElem?_push, if_pos (by simp)]
    all_goals (intro p hp; exact absurd hp (Nat.not_lt_zero _))
  case round =>
    obtain ⟨k, hk, rfl, hT⟩ := hrel
    by_cases hkn : k < n
    · have hcell : wr.cell? ⟨b, off + k, none⟩ = some (.string (ss.getD k ByteArray.empty)) := (hT.1.cell (p := ⟨b, off + k, none⟩) hb).trans (hc k (by omega))
      have hS' : w.heap.size + 1 < wr.heap.size := hT.2.1
      obtain ⟨s, hs⟩ : ∃ s, s = ss.getD k ByteArray.empty := ⟨_, rfl⟩
      rw [← hs] at hcell
      have Hs := hide hs
      clear hs
      have ik : (k : Int) < (n : Int) := by omega
      have ik' : (k : Int) ≤ (n : Int) := by omega
      have ik0 : (0 : Int) ≤ (k : Int) := by omega
      have hnk : ¬ n = k := by omega
      obtain ⟨v1, hv1⟩ : ∃ v1, wr.cell? ⟨w.heap.size + 1, k * 2, none⟩ = some v1 := by obtain ⟨_, _, _, _, h⟩ := hT; exact h.cell _ (by omega)
      obtain ⟨v2, hv2⟩ : ∃ v1, wr.cell? ⟨w.heap.size + 1, k * 2 + 1, none⟩ = some v1 := by obtain ⟨_, _, _, _, h⟩ := hT; exact h.cell _ (by omega)
      have hf : ∀ p, wr.frozen? ⟨w.heap.size + 1, p, none⟩ = false := by obtain ⟨_, _, _, _, h⟩ := hT; exact h.free
      have hbne : w.heap.size + 1 ≠ b := by omega
      clear hc
      go_wp2
      go_region_held3 (fun w' => w'.cell? ⟨b, off + k, none⟩ = some (.string s)) (first | (go_keep; done) | exact hc41 | exact cell_st2 hbne hc41) ((go_at_call 41; refine (new41 _ _ _).mono ?_; rintro e w1 ⟨rfl, hw1⟩; have hc41 : w1.cell? ⟨b, off + k, none⟩ = some (.string s) := by { rw [hw1]; exact cell_al3 hcell }; have q1 : w1.cell? ⟨w.heap.size + 1, k * 2, none⟩ = some v1 := by { rw [hw1]; exact cell_al3 hv1 }; have q2 : w1.cell? ⟨w.heap.size + 1, k * 2 + 1, none⟩ = some v2 := by { rw [hw1]; exact cell_al3 hv2 }; have q3 : ∀ p, w1.frozen? ⟨w.heap.size + 1, p, none⟩ = false := by { rw [hw1]; exact frozen_al3 hS' hf }; have HW := hide hw1; clear hw1))
      all_goals
        go_wp2
        go_roundw
        case measure => simp [intOf]; omega
        case rel =>
          refine ⟨k + 1, by omega, vi (by omega), ?_⟩
          have e := HW.out
          subst e
          have es : ss.getD k ByteArray.empty = s := Hs.out.symm
          first
            | exact hT.step hkn _ _ _ _ _ _ (by rw [es]; exact new0) new1 (Nat.le_refl _) (Nat.le_succ _)
            | exact hT.step hkn _ _ _ _ _ _ (by rw [es]; exact new1) new0 (Nat.le_succ _) (Nat.le_refl _)
    · obtain rfl : k = n := by omega
      go_wp2
      go_ret
      obtain ⟨h1, h2, rb, sb, h3⟩ := hT
      exact ⟨rfl, h1, h2, rb, sb, h3.heads⟩
end Go.Proofs.Qxb6602318a.Sd
