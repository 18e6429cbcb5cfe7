import Derived.Test.Qxb6602318aSd
import Derived.Deep.RegionHeld3
import Derived.BigRegion
namespace Go.Proofs.Qxb6602318a.Sd
open Go.RowKit

theorem id48 (Hb o r : Nat) (s : ByteArray) (w : World) (h1 : w.cell? ⟨Hb, o, none⟩ = some (.slice (some ⟨r, 0, none⟩) 1 1)) (h2 : w.cell? ⟨r, 0, none⟩ = some (.string s)) :
    Calls Try.prog 48 #[.pointer (some ⟨Hb, o, none⟩)] w fun e w' => e = .returned (.string s) ∧ w = w' := by
  go_enter Try.func48, Try.ntmps48
  go_wp2
  go_ret
  exact ⟨rfl, rfl⟩

/-- The heads in memory: place p of block Hb holds head 'π p'; head o's run is block 'rb o', its rest block 'sb o'. -/
structure Heads (w : World) (n : Nat) (ss : List ByteArray) (Hb : Nat) (rb sb : Nat → Nat) (π : Nat → Nat) : Prop where
  run : ∀ p, p < n → w.cell? ⟨Hb, p * 2, none⟩ = some (.slice (some ⟨rb (π p), 0, none⟩) 1 1)
  rest : ∀ p, p < n → w.cell? ⟨Hb, p * 2 + 1, none⟩ = some (.slice (some ⟨sb (π p), 0, none⟩) 1 1)
  key : ∀ o, o < n → w.cell? ⟨rb o, 0, none⟩ = some (.string (ss.getD o ByteArray.empty))
  mark : ∀ o, o < n → ∃ a, w.cell? ⟨sb o, 0, none⟩ = some (.slice a (n - o) (n - o))
  free : ∀ p, w.frozen? ⟨Hb, p, none⟩ = false
  apart : ∀ o, o < n → rb o ≠ Hb ∧ sb o ≠ Hb
  bnd : ∀ p, p < n → π p < n

theorem id48q (Hb o r q : Nat) (s : ByteArray) (w : World) (h1 : w.cell? ⟨Hb, o, none⟩ = some (.slice (some ⟨r, 0, none⟩) 1 1)) (h2 : w.cell? ⟨r, 0, none⟩ = some (.string s)) :
    Calls Try.prog 48 #[.pointer (some ⟨Hb, o, none⟩)] (w.drewN q) fun e w'' => e = .returned (.string s) ∧ ∃ m, w'' = w.drewN m :=
  Calls.quiet_of_same ((id48 Hb o r s (w.drewN q) h1 h2).mono fun _ _ ⟨he, hw⟩ => ⟨he, hw.symm⟩)

/-- Is a less than b, as Go compares strings? -/
def lessB (a b : ByteArray) : Bool := Op.bytesLess a.toList b.toList
/-- The lesser place of l and its would-be child c. -/
def pick1 (K : Nat → ByteArray) (n l c : Nat) : Nat := if c < n ∧ lessB (K c) (K l) = true then c else l
/-- The least of place j and its children, the first k children looked at. -/
def leastK (K : Nat → ByteArray) (n j : Nat) : Nat → Nat
  | 0 => j
  | k + 1 => pick1 K n (leastK K n j k) (2 * j + 1 + k)
theorem leastK_lt (K : Nat → ByteArray) (n j : Nat) (hj : j < n) : ∀ k, leastK K n j k < n
  | 0 => hj
  | k + 1 => by
    have := leastK_lt K n j hj k
    simp only [leastK, pick1]; split <;> omega
theorem leastK_ge (K : Nat → ByteArray) (n j : Nat) : ∀ k, leastK K n j k = j ∨ j < leastK K n j k
  | 0 => .inl rfl
  | k + 1 => by
    have := leastK_ge K n j k
    simp only [leastK, pick1]; split <;> omega
/-- Two places changed. -/
def swap (π : Nat → Nat) (i j : Nat) : Nat → Nat := fun p => if p = i then π j else if p = j then π i else π p
/-- siftDown, f rounds at most. -/
def sift (κ : Nat → ByteArray) (n : Nat) : Nat → (Nat → Nat) → Nat → (Nat → Nat)
  | 0, π, _ => π
  | f + 1, π, j => if leastK (fun p => κ (π p)) n j 2 = j then π else sift κ n f (swap π j (leastK (fun p => κ (π p)) n j 2)) (leastK (fun p => κ (π p)) n j 2)

theorem cell_set (w : World) (a : Addr) (v : Value) (q : Addr) (u : Value) (h : w.cell? q = some u) : (w.setCell a v).cell? q = some (if a = q then v else u) := by
  by_cases e : a = q
  · subst e; rw [if_pos rfl]; exact World.cell?_setCell_same _ _ _ h
  · rw [if_neg e, World.cell?_setCell_other _ _ _ _ e]; exact h

/-- What the exchange of heads j and l does. -/
def exch (w : World) (Hb j l : Nat) (rb sb ρ : Nat → Nat) : World :=
  (((w.setCell ⟨Hb, j * 2, none⟩ (.slice (some ⟨rb (ρ l), 0, none⟩) 1 1)).setCell ⟨Hb, j * 2 + 1, none⟩ (.slice (some ⟨sb (ρ l), 0, none⟩) 1 1)).setCell ⟨Hb, l * 2, none⟩ (.slice (some ⟨rb (ρ j), 0, none⟩) 1 1)).setCell ⟨Hb, l * 2 + 1, none⟩ (.slice (some ⟨sb (ρ j), 0, none⟩) 1 1)

theorem Heads.exch {w : World} {n : Nat} {ss : List ByteArray} {Hb : Nat} {rb sb ρ : Nat → Nat} (h : Heads w n ss Hb rb sb ρ) {j l : Nat} (hj : j < n) (hl : l < n) (hne : l ≠ j) :
    Heads (exch w Hb j l rb sb ρ) n ss Hb rb sb (swap ρ j l) := by
  have far : ∀ r o (u : Value), r ≠ Hb → w.cell? ⟨r, o, none⟩ = some u → (Sd.exch w Hb j l rb sb ρ).cell? ⟨r, o, none⟩ = some u := by
    intro r o u hr hu
    unfold Sd.exch
    rw [World.cell?_setCell_far _ _ _ _ hr.symm, World.cell?_setCell_far _ _ _ _ hr.symm, World.cell?_setCell_far _ _ _ _ hr.symm, World.cell?_setCell_far _ _ _ _ hr.symm]
    exact hu
  refine ⟨fun p hp => ?_, fun p hp => ?_, fun o ho => far _ _ _ (h.apart o ho).1 (h.key o ho), fun o ho => ?_, fun p => by unfold Sd.exch; simp [h.free p], h.apart, fun p hp => ?_⟩
  · have e := h.run p hp
    have e1 := cell_set _ ⟨Hb, j * 2, none⟩ (.slice (some ⟨rb (ρ l), 0, none⟩) 1 1) _ _ e
    have e2 := cell_set _ ⟨Hb, j * 2 + 1, none⟩ (.slice (some ⟨sb (ρ l), 0, none⟩) 1 1) _ _ e1
    have e3 := cell_set _ ⟨Hb, l * 2, none⟩ (.slice (some ⟨rb (ρ j), 0, none⟩) 1 1) _ _ e2
    have e4 := cell_set _ ⟨Hb, l * 2 + 1, none⟩ (.slice (some ⟨sb (ρ j), 0, none⟩) 1 1) _ _ e3
    unfold Sd.exch
    rw [e4]
    simp only [swap, Addr.mk.injEq, true_and, and_true]
    by_cases p1 : p = j
    · subst p1
      simp only [if_true]
      rw [if_neg (by omega), if_neg (by omega), if_neg (by omega)]
    · by_cases p2 : p = l
      · subst p2
        simp only [if_true]
        rw [if_neg (by omega), if_neg p1]
      · rw [if_neg (by omega), if_neg (by omega), if_neg (by omega), if_neg (by omega), if_neg p1, if_neg p2]
  · have e := h.rest p hp
    have e1 := cell_set _ ⟨Hb, j * 2, none⟩ (.slice (some ⟨rb (ρ l), 0, none⟩) 1 1) _ _ e
    have e2 := cell_set _ ⟨Hb, j * 2 + 1, none⟩ (.slice (some ⟨sb (ρ l), 0, none⟩) 1 1) _ _ e1
    have e3 := cell_set _ ⟨Hb, l * 2, none⟩ (.slice (some ⟨rb (ρ j), 0, none⟩) 1 1) _ _ e2
    have e4 := cell_set _ ⟨Hb, l * 2 + 1, none⟩ (.slice (some ⟨sb (ρ j), 0, none⟩) 1 1) _ _ e3
    unfold Sd.exch
    rw [e4]
    simp only [swap, Addr.mk.injEq, true_and, and_true]
    by_cases p1 : p = j
    · subst p1
      simp only [if_true]
      rw [if_neg (by omega), if_neg (by omega)]
    · by_cases p2 : p = l
      · subst p2
        simp only [if_true]
        rw [if_neg p1]
      · rw [if_neg (by omega), if_neg (by omega), if_neg (by omega), if_neg (by omega), if_neg p1, if_neg p2]
  · obtain ⟨a, ha⟩ := h.mark o ho
    exact ⟨a, far _ _ _ (h.apart o ho).2 ha⟩
  · unfold swap
    split
    · exact h.bnd l hl
    · split
      · exact h.bnd j hj
      · exact h.bnd p hp
theorem below_exch {w w0 : World} {Hb : Nat} {rb sb ρ : Nat → Nat} {j l : Nat} (hb : Below Hb w0 w) : Below Hb w0 (exch w Hb j l rb sb ρ) :=
  (((hb.setCell (Nat.le_refl _) _).setCell (Nat.le_refl _) _).setCell (Nat.le_refl _) _).setCell (Nat.le_refl _) _
theorem Heads.drewN {w : World} {n : Nat} {ss : List ByteArray} {Hb : Nat} {rb sb ρ : Nat → Nat} (h : Heads w n ss Hb rb sb ρ) (q : Nat) : Heads (w.drewN q) n ss Hb rb sb ρ :=
  ⟨h.run, h.rest, h.key, h.mark, h.free, h.apart, h.bnd⟩
theorem Heads.drew {w : World} {n : Nat} {ss : List ByteArray} {Hb : Nat} {rb sb ρ : Nat → Nat} (h : Heads w n ss Hb rb sb ρ) : Heads w.drew n ss Hb rb sb ρ :=
  ⟨h.run, h.rest, h.key, h.mark, h.free, h.apart, h.bnd⟩

theorem idx59 (a b : Int) (w : World) : (Instr.index 59 (.agg #[.int .i64 a, .int .i64 b]) (.int .i64 0)).run Try.prog w = .ok (.int .i64 a) w := by kernel_rfl
theorem idx59' (a b : Int) (w : World) : (Instr.index 59 (.agg #[.int .i64 a, .int .i64 b]) (.int .i64 1)).run Try.prog w = .ok (.int .i64 b) w := by kernel_rfl

set_option maxHeartbeats 1000000 in
theorem sift_any (n i : Nat) (ss : List ByteArray) (Hb : Nat) (rb sb π : Nat → Nat) (w : World) (hn : n ≤ 65536) (hi : i < n) (h : Heads w n ss Hb rb sb π) :
    Calls Try.prog 42 #[.slice (some ⟨Hb, 0, none⟩) n n, .int .i64 i] w fun e w' => e = .returned (.tuple #[]) ∧ Below Hb w w' ∧ Heads w' n ss Hb rb sb (sift (fun o => ss.getD o ByteArray.empty) n n π i) := by
  obtain ⟨FIN, hFIN⟩ : ∃ F, F = sift (fun o => ss.getD o ByteArray.empty) n n π i := ⟨_, rfl⟩
  rw [← hFIN]
  have HF := hide hFIN
  have hx0 := idx59
  have hx1 := idx59'
  clear hFIN
  go_enter Try.func42, Try.ntmps42
  go_wp2
  go_loopw [1] (fun t wr => ∃ (j f : Nat) (ρ : Nat → Nat), j < n ∧ n - j ≤ f ∧ t = .int .i64 j ∧ Heads wr n ss Hb rb sb ρ ∧ Below Hb w wr ∧ Hid (FIN = sift (fun o => ss.getD o ByteArray.empty) n f ρ j)) (fun t _ => n - (intOf t).toNat)
  case atStart => exact ⟨i, n, π, hi, by omega, rfl, h, Below.refl _ _, HF.out⟩
  case round =>
    obtain ⟨j, f, ρ, hj, hf, rfl, hH, hB, HS⟩ := hrel
    obtain ⟨κ, hκ⟩ : ∃ κ : Nat → ByteArray, κ = fun p => ss.getD (ρ p) ByteArray.empty := ⟨_, rfl⟩
    have Hκ := hide hκ
    clear hκ h
    go_wp2
    go_loopw [4, 15] (fun l k wq => ∃ (kk : Nat), kk ≤ 2 ∧ k = .int .i64 kk ∧ l = .int .i64 (leastK κ n j kk) ∧ Heads wq n ss Hb rb sb ρ ∧ Below Hb w wq) (fun _ k _ => 2 - (intOf k).toNat)
    case atStart => exact ⟨0, by omega, rfl, rfl, hH, hB⟩
    case round =>
      clear hH hB
      obtain ⟨kk, hk, rfl, rfl, hH, hB⟩ := hrel
      have hl := leastK_lt κ n j hj kk
      obtain ⟨l, hl0⟩ : ∃ l, l = leastK κ n j kk := ⟨_, rfl⟩
      rw [← hl0] at hl ⊢
      have hst : leastK κ n j (kk + 1) = pick1 κ n l (2 * j + 1 + kk) := by rw [leastK, ← hl0]
      have HL := hide hl0
      have HST := hide hst
      clear hl0 hst
      have rl := hH.run l hl
      have kl := hH.key (ρ l) (hH.bnd l hl)
      rcases (show kk = 0 ∨ kk = 1 ∨ kk = 2 by omega) with rfl | rfl | rfl
      · by_cases hcn : 2 * j + 1 < n
        · have ci : 2 * (j : Int) + 1 < (n : Int) := by omega
          have il : (l : Int) < (n : Int) := by omega
          have p1 : (0 : Int) ≤ 2 * (j : Int) + 1 := by omega
          have e1 : (2 * (j : Int) + 1).toNat = 2 * j + 1 := by omega
          have rc := hH.run (2 * j + 1) hcn
          have kc := hH.key (ρ (2 * j + 1)) (hH.bnd _ hcn)
          have ec : ss.getD (ρ (2 * j + 1)) ByteArray.empty = κ (2 * j + 1) := by rw [Hκ.out]
          have el : ss.getD (ρ l) ByteArray.empty = κ l := by rw [Hκ.out]
          rw [ec] at kc
          rw [el] at kl
          have hp : pick1 κ n l (2 * j + 1) = if lessB (κ (2 * j + 1)) (κ l) = true then 2 * j + 1 else l := by simp only [pick1, hcn, true_and]
          have HP := hide hp
          clear ec el hp
          obtain ⟨sc, hsc⟩ : ∃ sc, sc = κ (2 * j + 1) := ⟨_, rfl⟩
          obtain ⟨sl, hsl⟩ : ∃ sl, sl = κ l := ⟨_, rfl⟩
          rw [← hsc] at kc HP
          rw [← hsl] at kl HP
          clear hsc hsl
          obtain ⟨r, hr⟩ : ∃ r, lessB sc sl = r := ⟨_, rfl⟩
          have hr' : Op.bytesLess sc.toList sl.toList = r := hr
          have Hr := hide hr
          clear hr
          go_wp2
          go_quiet (first | (go_at_call_of 48 l; exact id48q _ _ _ _ _ _ rl kl) | (go_at_call_of 48 j; exact id48q _ _ _ _ _ _ rc kc))
          cases r
          all_goals
            go_wp2
            go_roundw
            case rel => exact ⟨0 + 1, by omega, rfl, vi (by rw [HST.out, HP.out, Hr.out]; rfl), hH.drewN nq, below_drewN hB nq⟩
            case measure => simp [intOf]
        · have cd : decide (2 * (j : Int) + 1 < (n : Int)) = false := decide_eq_false (by omega)
          have hp : pick1 κ n l (2 * j + 1) = l := by simp only [pick1, hcn, false_and, if_false]
          have HP := hide hp
          clear hp
          go_wp2
          go_quiet (fail)
          go_wp2
          go_roundw
          case rel => exact ⟨0 + 1, by omega, rfl, vi (by rw [HST.out, HP.out]), hH.drewN nq, below_drewN hB nq⟩
          case measure => simp [intOf]
      · by_cases hcn : 2 * j + 2 < n
        · have ci : 2 * (j : Int) + 2 < (n : Int) := by omega
          have il : (l : Int) < (n : Int) := by omega
          have p1 : (0 : Int) ≤ 2 * (j : Int) + 2 := by omega
          have e1 : (2 * (j : Int) + 2).toNat = 2 * j + 2 := by omega
          have rc := hH.run (2 * j + 2) hcn
          have kc := hH.key (ρ (2 * j + 2)) (hH.bnd _ hcn)
          have ec : ss.getD (ρ (2 * j + 2)) ByteArray.empty = κ (2 * j + 2) := by rw [Hκ.out]
          have el : ss.getD (ρ l) ByteArray.empty = κ l := by rw [Hκ.out]
          rw [ec] at kc
          rw [el] at kl
          have hp : pick1 κ n l (2 * j + 2) = if lessB (κ (2 * j + 2)) (κ l) = true then 2 * j + 2 else l := by simp only [pick1, hcn, true_and]
          have HP := hide hp
          clear ec el hp
          obtain ⟨sc, hsc⟩ : ∃ sc, sc = κ (2 * j + 2) := ⟨_, rfl⟩
          obtain ⟨sl, hsl⟩ : ∃ sl, sl = κ l := ⟨_, rfl⟩
          rw [← hsc] at kc HP
          rw [← hsl] at kl HP
          clear hsc hsl
          obtain ⟨r, hr⟩ : ∃ r, lessB sc sl = r := ⟨_, rfl⟩
          have hr' : Op.bytesLess sc.toList sl.toList = r := hr
          have Hr := hide hr
          clear hr
          go_wp2
          go_quiet (first | (go_at_call_of 48 l; exact id48q _ _ _ _ _ _ rl kl) | (go_at_call_of 48 j; exact id48q _ _ _ _ _ _ rc kc))
          cases r
          all_goals
            go_wp2
            go_roundw
            case rel => exact ⟨1 + 1, by omega, rfl, vi (by rw [HST.out, HP.out, Hr.out]; rfl), hH.drewN nq, below_drewN hB nq⟩
            case measure => simp [intOf]
        · have cd : decide (2 * (j : Int) + 2 < (n : Int)) = false := decide_eq_false (by omega)
          have hp : pick1 κ n l (2 * j + 2) = l := by simp only [pick1, hcn, false_and, if_false]
          have HP := hide hp
          clear hp
          go_wp2
          go_quiet (fail)
          go_wp2
          go_roundw
          case rel => exact ⟨1 + 1, by omega, rfl, vi (by rw [HST.out, HP.out]), hH.drewN nq, below_drewN hB nq⟩
          case measure => simp [intOf]
      · by_cases hlj : l = j
        · have heq : ((l : Int) == (j : Int)) = true := by rw [beq_iff_eq]; omega
          have hfin : FIN = ρ := by
            rw [HS.out]
            cases f with
            | zero => omega
            | succ f =>
              have hl2 := HL.out
              rw [Hκ.out] at hl2
              rw [sift, if_pos (by rw [← hl2]; exact hlj)]
          have HFI := hide hfin
          clear hfin hlj
          go_wp2
          refine bodyPost_ret (results_none rfl _ _ _) rfl ?_
          exact ⟨rfl, hB, by rw [HFI.out]; exact hH⟩
        · have hne : ((l : Int) == (j : Int)) = false := by rw [beq_eq_false_iff_ne]; omega
          have r1 := hH.run j hj
          have r2 := hH.rest j hj
          have r3 := hH.rest l hl
          have f1 := hH.free
          have il : (l : Int) < (n : Int) := by omega
          have ij : (j : Int) < (n : Int) := by omega
          have n1 : ¬ l * 2 = j * 2 := by omega
          have n2 : ¬ l * 2 = j * 2 + 1 := by omega
          have n3 : ¬ l * 2 + 1 = j * 2 := by omega
          have n4 : ¬ j * 2 = l * 2 := by omega
          have n5 : ¬ j * 2 = l * 2 + 1 := by omega
          have n6 : ¬ j * 2 + 1 = l * 2 := by omega
          generalize ss.getD (ρ l) ByteArray.empty = sl at *
          go_wp2
          go_region
          go_wp2
          go_roundw
          case rel =>
            refine ⟨l, f - 1, swap ρ j l, hl, ?_, rfl, ?_, ?_, ?_⟩
            · rcases leastK_ge κ n j 2 with h' | h'
              · exact absurd (HL.out.trans h') hlj
              · have := HL.out; omega
            · exact (hH.exch hj hl hlj).drew
            · exact (below_exch hB).drew
            · show _ = _
              rw [HS.out]
              have hl2 := HL.out
              rw [Hκ.out] at hl2
              cases f with
              | zero => omega
              | succ f => rw [sift, if_neg (by rw [← hl2]; exact hlj), ← hl2]; rfl
          case measure =>
            rcases leastK_ge κ n j 2 with h' | h'
            · exact absurd (HL.out.trans h') hlj
            · have := HL.out; simp [intOf]; omega
end Go.Proofs.Qxb6602318a.Sd
