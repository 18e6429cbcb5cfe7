import Derived.Test.Qxb6602318aSd3
namespace Go.Proofs.Qxb6602318a.Sd
open Go.RowKit

theorem run43 (a1 a2 : Addr) (w : World) : Calls Try.prog 43 #[.agg #[.slice (some a1) 1 1, .slice (some a2) 1 1]] w fun e w' => e = .returned (.slice (some a1) 1 1) ∧ Below w.heap.size w w' := by
  go_enter Try.func43, Try.ntmps43
  go_wp2
  go_ret
  exact ⟨rfl, (Below.refl _ _).alloc (Nat.le_refl _) _⟩
theorem rest44 (a1 a2 : Addr) (w : World) : Calls Try.prog 44 #[.agg #[.slice (some a1) 1 1, .slice (some a2) 1 1]] w fun e w' => e = .returned (.slice (some a2) 1 1) ∧ Below w.heap.size w w' := by
  go_enter Try.func44, Try.ntmps44
  go_wp2
  go_ret
  exact ⟨rfl, (Below.refl _ _).alloc (Nat.le_refl _) _⟩

/-- Has head o been met among the first k places? -/
def seenB (π : Nat → Nat) : Nat → Nat → Bool
  | 0, _ => false
  | k + 1, o => seenB π k o || (π k == o)
theorem seenB_no (π : Nat → Nat) (n : Nat) (inj : ∀ p q, p < n → q < n → π p = π q → p = q) (k : Nat) (hk : k < n) : ∀ j, j ≤ k → seenB π j (π k) = false
  | 0, _ => rfl
  | j + 1, h => by
    rw [seenB, seenB_no π n inj k hk j (by omega), Bool.false_or, beq_eq_false_iff_ne]
    intro e
    have := inj j k (by omega) hk e
    omega

def keyF (ss : List ByteArray) (π : Nat → Nat) (k : Nat) (p : Nat) : Value := if p < k then .string (ss.getD (π p) ByteArray.empty) else .string ByteArray.empty
def origF (π : Nat → Nat) (k : Nat) (p : Nat) : Value := if p < k then .int .i64 (π p) else .int .i64 0
def seenF (π : Nat → Nat) (k : Nat) (o : Nat) : Value := .bool (seenB π k o)

/-- zzReadPermutation behind k rounds. -/
structure Reads (w wr : World) (k n : Nat) (ss : List ByteArray) (Kb Ob Sb : Nat) (π : Nat → Nat) : Prop where
  bel : Below Kb w wr
  keys : wr.rowIs Kb 9 n (keyF ss π k)
  origs : wr.rowIs Ob 3 n (origF π k)
  seen : wr.rowIs Sb 4 n (seenF π k)

theorem Heads.below {w w' : World} {n : Nat} {ss : List ByteArray} {Hb : Nat} {rb sb π : Nat → Nat} (h : Heads w n ss Hb rb sb π) {B : Nat} (hb : Below B w w') (h1 : Hb < B) (h2 : ∀ o, o < n → rb o < B ∧ sb o < B) : Heads w' n ss Hb rb sb π :=
  ⟨fun p hp => (hb.cell (p := ⟨Hb, p * 2, none⟩) h1).trans (h.run p hp), fun p hp => (hb.cell (p := ⟨Hb, p * 2 + 1, none⟩) h1).trans (h.rest p hp),
    fun o ho => (hb.cell (p := ⟨rb o, 0, none⟩) (h2 o ho).1).trans (h.key o ho), fun o ho => by
      obtain ⟨a, ha⟩ := h.mark o ho
      exact ⟨a, (hb.cell (p := ⟨sb o, 0, none⟩) (h2 o ho).2).trans ha⟩, fun p => (hb.frozen (p := ⟨Hb, p, none⟩) h1).trans (h.free p), h.apart, h.bnd⟩
theorem Heads.lts {w : World} {n : Nat} {ss : List ByteArray} {Hb : Nat} {rb sb π : Nat → Nat} (h : Heads w n ss Hb rb sb π) : ∀ o, o < n → rb o < w.heap.size ∧ sb o < w.heap.size := by
  have lt : ∀ g v, w.cell? ⟨g, 0, none⟩ = some v → g < w.heap.size := by
    intro g v hv
    rcases Nat.lt_or_ge g w.heap.size with h' | h'
    · exact h'
    · simp [World.cell?, Array.getElem?_eq_none h'] at hv
  intro o ho
  obtain ⟨a, ha⟩ := h.mark o ho
  exact ⟨lt _ _ (h.key o ho), lt _ _ ha⟩

theorem rowIs_below {w w' : World} {b : Nat} {t : TypeId} {n : Nat} {f : Nat → Value} (h : w.rowIs b t n f) {B : Nat} (hb : Below B w w') (hB : b < B) : w'.rowIs b t n f := h.of_block (hb.block b hB)
theorem Reads.below {w wr w1 : World} {k n : Nat} {ss : List ByteArray} {Kb Ob Sb : Nat} {π : Nat → Nat} (h : Reads w wr k n ss Kb Ob Sb π) (hb : Below wr.heap.size wr w1) : Reads w w1 k n ss Kb Ob Sb π :=
  ⟨h.bel.trans (hb.mono (Nat.le_of_lt h.keys.lt)), rowIs_below h.keys hb h.keys.lt, rowIs_below h.origs hb h.origs.lt, rowIs_below h.seen hb h.seen.lt⟩

theorem Reads.drewN {w wr : World} {k n : Nat} {ss : List ByteArray} {Kb Ob Sb : Nat} {π : Nat → Nat} (h : Reads w wr k n ss Kb Ob Sb π) (q : Nat) : Reads w (wr.drewN q) k n ss Kb Ob Sb π :=
  ⟨below_drewN h.bel q, h.keys, h.origs, h.seen⟩
theorem Reads.step {w wr : World} {k n : Nat} {ss : List ByteArray} {Kb Ob Sb : Nat} {π : Nat → Nat} (h : Reads w wr k n ss Kb Ob Sb π) (hKO : Kb < Ob) (hOS : Ob < Sb) :
    Reads w (((wr.setCell ⟨Sb, π k, none⟩ (.bool true)).setCell ⟨Kb, k, none⟩ (.string (ss.getD (π k) ByteArray.empty))).setCell ⟨Ob, k, none⟩ (.int .i64 (π k))) (k + 1) n ss Kb Ob Sb π := by
  refine ⟨?_, ?_, ?_, ?_⟩
  · exact ((h.bel.setCell (by show Kb ≤ Sb; omega) _).setCell (Nat.le_refl Kb) _).setCell (by show Kb ≤ Ob; omega) _
  · refine (((h.keys.setOther (a := ⟨Sb, π k, none⟩) (by show Kb ≠ Sb; omega) _).set k (.string (ss.getD (π k) ByteArray.empty))).setOther (a := ⟨Ob, k, none⟩) (by show Kb ≠ Ob; omega) _).congr fun p hp => ?_
    unfold keyF
    by_cases e : p = k
    · subst e; simp
    · simp only [e, if_false]
      by_cases e2 : p < k
      · rw [if_pos e2, if_pos (by omega)]
      · rw [if_neg e2, if_neg (by omega)]
  · refine (((h.origs.setOther (a := ⟨Sb, π k, none⟩) (by show Ob ≠ Sb; omega) _).setOther (a := ⟨Kb, k, none⟩) (by show Ob ≠ Kb; omega) _).set k (.int .i64 (π k))).congr fun p hp => ?_
    unfold origF
    by_cases e : p = k
    · subst e; simp
    · simp only [e, if_false]
      by_cases e2 : p < k
      · rw [if_pos e2, if_pos (by omega)]
      · rw [if_neg e2, if_neg (by omega)]
  · refine (((h.seen.set (π k) (.bool true)).setOther (a := ⟨Kb, k, none⟩) (by show Sb ≠ Kb; omega) _).setOther (a := ⟨Ob, k, none⟩) (by show Sb ≠ Ob; omega) _).congr fun o ho => ?_
    unfold seenF
    simp only [seenB]
    by_cases e : o = π k
    · subst e; simp
    · rw [if_neg e]
      have : (π k == o) = false := by rw [beq_eq_false_iff_ne]; exact fun h => e h.symm
      rw [this, Bool.or_false]

/-- What zzReadPermutation leaves. -/
def Read (w w' : World) (n : Nat) (ss : List ByteArray) (Kb Ob : Nat) (π : Nat → Nat) : Prop := Below Kb w w' ∧ w'.rowIs Kb 9 n (keyF ss π n) ∧ w'.rowIs Ob 3 n (origF π n)

set_option maxRecDepth 100000 in
set_option maxHeartbeats 2000000 in
theorem read_any (b off c n : Nat) (ss : List ByteArray) (Hb Kb Ob : Nat) (rb sb π : Nat → Nat) (w : World) (hss : ss.length = n) (hn : n ≤ 65536)
    (hc : Ids w b off ss) (h : Heads w n ss Hb rb sb π) (inj : ∀ p q, p < n → q < n → π p = π q → p = q)
    (hb : b < Kb) (hHb : Hb < Kb) (hrs : ∀ o, o < n → rb o < Kb ∧ sb o < Kb) (hKO : Kb < Ob)
    (hK : w.rowIs Kb 9 n (fun _ => .string ByteArray.empty)) (hO : w.rowIs Ob 3 n (fun _ => .int .i64 0)) :
    Calls Try.prog 23 #[.slice (some ⟨Hb, 0, none⟩) n n, .slice (some ⟨b, off, none⟩) n c, .slice (some ⟨Kb, 0, none⟩) n n, .slice (some ⟨Ob, 0, none⟩) n n] w fun e w' => e = .returned (.bool true) ∧ Read w w' n ss Kb Ob π := by
  have mk1 := run_make_row' (P := Try.prog) 52 4 (.bool false) 1 Try.underlying52 (by kernel_rfl) rfl .i64 .i64 n (by omega) (by omega)
  have hnn : ((n : Int) != (n : Int)) = false := by simp
  have hOS := hO.lt
  have HC := hide hc
  have Hinj := hide inj
  have Hrs := hide hrs
  clear hc inj hrs
  go_enter Try.func23, Try.ntmps23
  go_wp2
  go_loopw [11, 12, 13, 14] (fun t _ _ _ wr => ∃ (k : Nat), k ≤ n ∧ t = .int .i64 k ∧ Reads w wr k n ss Kb Ob w.heap.size π) (fun t _ _ _ _ => n - (intOf t).toNat)
  case atStart =>
    refine ⟨0, Nat.zero_le _, rfl, (Below.refl _ _).alloc (Nat.le_of_lt (by omega)) _, (hK.alloc _).congr fun p hp => ?_, (hO.alloc _).congr fun p hp => ?_, (World.rowIs_made w (.bool false) n 4).congr fun p hp => ?_⟩
    · simp [keyF]
    · simp [origF]
    · simp [seenF, seenB]
  case round =>
    obtain ⟨k, hk, rfl, hR⟩ := hrel
    by_cases hkn : k < n
    · have hH := h.below hR.bel hHb Hrs.out
      have c1 := hH.run k hkn
      have c2 := hH.rest k hkn
      have ho := hH.bnd k hkn
      obtain ⟨o, ho0⟩ : ∃ o, o = π k := ⟨_, rfl⟩
      rw [← ho0] at c1 c2 ho
      have ik : (k : Int) < (n : Int) := by omega
      have Ho := hide ho0
      clear ho0
      go_wp2_with fail
      refine (run43 _ _ _).mono ?_
      rintro e w1 ⟨rfl, hb1⟩
      have hR1 := hR.below hb1
      clear hR c1 c2 hH hb1
      have hH := h.below hR1.bel hHb Hrs.out
      have c1 := hH.run k hkn
      have c2 := hH.rest k hkn
      rw [← Ho.out] at c1 c2
      go_wp2_with fail
      refine (rest44 _ _ _).mono ?_
      rintro e w2 ⟨rfl, hb2⟩
      have hR := hR1.below hb2
      clear hR1 c1 c2 hH hb2
      have hH := h.below hR.bel hHb Hrs.out
      have c3 := hH.key o ho
      obtain ⟨mk, c4⟩ := hH.mark o ho
      have c5 : w2.cell? ⟨b, off + o, none⟩ = some (.string (ss.getD o ByteArray.empty)) := (hR.bel.cell (p := ⟨b, off + o, none⟩) hb).trans (HC.out o (by omega))
      obtain ⟨s, hs⟩ : ∃ s, s = ss.getD o ByteArray.empty := ⟨_, rfl⟩
      rw [← hs] at c3 c5
      obtain ⟨m, hm⟩ : ∃ m, m = n - o := ⟨_, rfl⟩
      rw [← hm] at c4
      have hsub : (n : Int) - (m : Int) = (o : Int) := by omega
      have c6 := hR.seen.cell ho
      have c7 := hR.keys.cell hkn
      have c8 := hR.origs.cell hkn
      have f6 := hR.seen.frozen
      have f7 := hR.keys.frozen
      have f8 := hR.origs.frozen
      have hsn : seenF π k o = .bool false := by unfold seenF; rw [Ho.out, seenB_no π n Hinj.out k hkn k (Nat.le_refl _)]
      rw [hsn] at c6
      have io : (o : Int) < (n : Int) := by omega
      have d1 : decide ((o : Int) < 0) = false := decide_eq_false (by omega)
      have d2 : decide ((n : Int) ≤ (o : Int)) = false := decide_eq_false (by omega)
      have nSK : w.heap.size ≠ Kb := by omega
      have nSO : w.heap.size ≠ Ob := by omega
      have nKO : Kb ≠ Ob := by omega
      have nSR : w.heap.size ≠ rb o := by have := (Hrs.out o ho).1; omega
      have Hs := hide hs
      generalize keyF ss π k k = v7 at c7
      generalize origF π k k = v8 at c8
      clear hs hm hsn hH
      go_wp2
      go_quiet (fail)
      go_wp2
      go_roundw
      case measure => simp [intOf]; omega
      case rel =>
        refine ⟨k + 1, by omega, vi (by omega), ?_⟩
        have := (hR.drewN nq).step hKO hOS
        rw [← Ho.out, ← Hs.out] at this
        exact this
    · obtain rfl : k = n := by omega
      go_wp2
      go_ret
      exact ⟨rfl, hR.bel, hR.keys, hR.origs⟩
end Go.Proofs.Qxb6602318a.Sd
