import Derived.Test.Qxb6602318aSd7
namespace Go.Proofs.Qxb6602318a.Sd
open Go.RowKit

/-- It answers whether p holds. -/
def Tells (e : Ending) (p : Prop) : Prop := ∃ r : Bool, e = .returned (.bool r) ∧ (r = true ↔ p)
theorem Tells.yes {e : Ending} {p : Prop} (h : e = .returned (.bool true)) (hp : p) : Tells e p := ⟨true, h, ⟨fun _ => hp, fun _ => rfl⟩⟩
theorem Tells.no {e : Ending} {p : Prop} (h : e = .returned (.bool false)) (hp : ¬ p) : Tells e p := ⟨false, h, ⟨fun h => (by cases h), fun h => absurd h hp⟩⟩

/-- The first k places are right. -/
def HeapTo (K : Nat → ByteArray) (n : Nat) (skip : Int) (k : Nat) : Prop := ∀ p, p < k → (p : Int) ≠ skip → OkAt K n p
theorem HeapTo.step {K : Nat → ByteArray} {n : Nat} {skip : Int} {k : Nat} (h : HeapTo K n skip k) (hk : (k : Int) ≠ skip → OkAt K n k) : HeapTo K n skip (k + 1) := by
  intro p hp hs
  rcases Nat.lt_or_eq_of_le (Nat.le_of_lt_succ hp) with h' | h'
  · exact h p h' hs
  · subst h'; exact hk hs

set_option maxRecDepth 100000 in
set_option maxHeartbeats 2000000 in
theorem heap19 (b off c : Nat) (ss : List ByteArray) (skip : Int) (w : World) (n : Nat) (hss : ss.length = n) (hn : n ≤ 65536) (hc : Ids w b off ss) :
    Calls Try.prog 19 #[.slice (some ⟨b, off, none⟩) n c, .int .i64 skip] w fun e w' => Tells e (HeapEx (fun p => ss.getD p ByteArray.empty) n skip) ∧ Below w.heap.size w w' := by
  obtain ⟨K, hK⟩ : ∃ K : Nat → ByteArray, K = fun p => ss.getD p ByteArray.empty := ⟨_, rfl⟩
  have hc' : ∀ q i, i < n → (w.drewN q).cell? ⟨b, off + i, none⟩ = some (.string (K i)) := fun q i hi => by rw [hK]; exact hc i (by omega)
  rw [← hK]
  have HC := hide hc'
  clear hK hc hc'
  go_enter Try.func19, Try.ntmps19
  go_wp2
  go_loopw [5, 6] (fun t _ wr => ∃ (k q : Nat), k ≤ n ∧ t = .int .i64 k ∧ wr = w.drewN q ∧ Hid (HeapTo K n skip k)) (fun t _ _ => n - (intOf t).toNat)
  case atStart => exact ⟨0, 0, Nat.zero_le _, rfl, rfl, fun p hp => absurd hp (Nat.not_lt_zero _)⟩
  case round =>
    obtain ⟨k, q, hk, rfl, hwr, HT⟩ := hrel
    have hcell := HC.out q
    rw [← hwr] at hcell
    have HW := hide hwr
    clear hwr
    have bel : Hid (∀ q', Below w.heap.size w (wr.drewN q')) := fun q' => by rw [HW.out]; exact below_drewN (below_drewN (Below.refl _ _) _) _
    by_cases hkn : k < n
    · by_cases hsk : (k : Int) = skip
      · have hsk' : ((k : Int) == skip) = true := by rw [beq_iff_eq]; exact hsk
        have hstep := hide (HT.out.step fun h => absurd hsk h)
        clear hsk hcell
        go_wp2
        go_roundw
        case rel => exact ⟨k + 1, q, by omega, vi (by omega), HW.out, hstep.out⟩
        case measure => simp [intOf]; omega
      · have hsk' : ((k : Int) == skip) = false := by rw [beq_eq_false_iff_ne]; exact hsk
        have HSK := hide hsk
        clear hsk
        have ck := hcell k hkn
        have ik : (k : Int) < (n : Int) := by omega
        obtain ⟨sk, hsk⟩ : ∃ s, s = K k := ⟨_, rfl⟩
        rw [← hsk] at ck
        have Hsk := hide hsk
        clear hsk
        by_cases h1 : 2 * k + 1 < n
        · have c1 := hcell _ h1
          have i1 : 2 * (k : Int) + 1 < (n : Int) := by omega
          have p1 : (0 : Int) ≤ 2 * (k : Int) + 1 := by omega
          have e1 : (2 * (k : Int) + 1).toNat = 2 * k + 1 := by omega
          obtain ⟨s1, hs1⟩ : ∃ s, s = K (2 * k + 1) := ⟨_, rfl⟩
          rw [← hs1] at c1
          have Hs1 := hide hs1
          clear hs1
          obtain ⟨r1, hr1⟩ : ∃ r, Op.bytesLess s1.toList sk.toList = r := ⟨_, rfl⟩
          have Hr1 := hide (show lessB (K (2 * k + 1)) (K k) = r1 by rw [← Hs1.out, ← Hsk.out]; exact hr1)
          cases r1
          · by_cases h2 : 2 * k + 2 < n
            · have c2 := hcell _ h2
              have i2 : 2 * (k : Int) + 2 < (n : Int) := by omega
              have p2 : (0 : Int) ≤ 2 * (k : Int) + 2 := by omega
              have e2 : (2 * (k : Int) + 2).toNat = 2 * k + 2 := by omega
              obtain ⟨s2, hs2⟩ : ∃ s, s = K (2 * k + 2) := ⟨_, rfl⟩
              rw [← hs2] at c2
              have Hs2 := hide hs2
              clear hs2
              obtain ⟨r2, hr2⟩ : ∃ r, Op.bytesLess s2.toList sk.toList = r := ⟨_, rfl⟩
              have Hr2 := hide (show lessB (K (2 * k + 2)) (K k) = r2 by rw [← Hs2.out, ← Hsk.out]; exact hr2)
              clear hcell
              cases r2
              · have hstep := hide (HT.out.step fun _ => ⟨fun _ => Hr1.out, fun _ => Hr2.out⟩)
                go_wp2
                go_quiet (fail)
                go_wp2
                go_quiet (fail)
                go_wp2
                go_roundw
                case rel => exact ⟨k + 1, _, by omega, vi (by omega), by rw [HW.out, World.drewN_drewN], hstep.out⟩
                case measure => simp [intOf]; omega
              · have hno : ¬ HeapEx K n skip := fun h => by
                  have := (h k hkn HSK.out).2 h2
                  unfold Le at this
                  rw [Hr2.out] at this; cases this
                have HN := hide hno
                clear hno
                go_wp2
                go_quiet (fail)
                go_wp2
                go_quiet (fail)
                go_wp2
                go_ret
                exact ⟨Tells.no rfl HN.out, below_drewN (bel.out _) _⟩
            · have d2 : decide (2 * (k : Int) + 2 < (n : Int)) = false := decide_eq_false (by omega)
              have hstep := hide (HT.out.step fun _ => ⟨fun _ => Hr1.out, fun h => absurd h h2⟩)
              clear hcell
              go_wp2
              go_quiet (fail)
              go_wp2
              go_quiet (fail)
              go_wp2
              go_roundw
              case rel => exact ⟨k + 1, _, by omega, vi (by omega), by rw [HW.out, World.drewN_drewN], hstep.out⟩
              case measure => simp [intOf]; omega
          · have hno : ¬ HeapEx K n skip := fun h => by
              have := (h k hkn HSK.out).1 h1
              unfold Le at this
              rw [Hr1.out] at this; cases this
            have HN := hide hno
            clear hno hcell
            go_wp2
            go_quiet (fail)
            go_wp2
            go_ret
            exact ⟨Tells.no rfl HN.out, bel.out _⟩
        · have d1 : decide (2 * (k : Int) + 1 < (n : Int)) = false := decide_eq_false (by omega)
          have d2 : decide (2 * (k : Int) + 2 < (n : Int)) = false := decide_eq_false (by omega)
          have hstep := hide (HT.out.step fun _ => ⟨fun h => absurd h h1, fun h => absurd h (by omega)⟩)
          clear hcell
          go_wp2
          go_quiet (fail)
          go_wp2
          go_quiet (fail)
          go_wp2
          go_roundw
          case rel => exact ⟨k + 1, _, by omega, vi (by omega), by rw [HW.out, World.drewN_drewN], hstep.out⟩
          case measure => simp [intOf]; omega
    · obtain rfl : k = n := by omega
      clear hcell
      go_wp2
      go_ret
      exact ⟨Tells.yes rfl HT.out, bel.out 0⟩


set_option maxRecDepth 100000 in
set_option maxHeartbeats 2000000 in
theorem child20 (b off c : Nat) (ss : List ByteArray) (j : Nat) (w : World) (n : Nat) (hss : ss.length = n) (hn : n ≤ 65536) (hj : j < n) (hc : Ids w b off ss) :
    Calls Try.prog 20 #[.slice (some ⟨b, off, none⟩) n c, .int .i64 j] w fun e w' => Tells e (ChildOk (fun p => ss.getD p ByteArray.empty) n j) ∧ Below w.heap.size w w' := by
  obtain ⟨K, hK⟩ : ∃ K : Nat → ByteArray, K = fun p => ss.getD p ByteArray.empty := ⟨_, rfl⟩
  have hc' : ∀ q i, i < n → (w.drewN q).cell? ⟨b, off + i, none⟩ = some (.string (K i)) := fun q i hi => by rw [hK]; exact hc i (by omega)
  rw [← hK]
  have HC := hide hc'
  clear hK hc hc'
  by_cases hj0 : j = 0
  · subst hj0
    have hok : ChildOk K n 0 := fun h => absurd h (Nat.lt_irrefl _)
    have HO := hide hok
    clear hok
    go_enter Try.func20, Try.ntmps20
    go_wp2
    go_ret
    exact ⟨Tells.yes rfl HO.out, Below.refl _ _⟩
  · have hj1 : ¬ (j : Int) ≤ 0 := by omega
    obtain ⟨p, hp⟩ : ∃ p, p = (j - 1) / 2 := ⟨_, rfl⟩
    have hpe : ((j : Int) - 1) / 2 = (p : Int) := by omega
    have hpj : p < j := by omega
    have Hp := hide hp
    clear hp hj0
    go_enter Try.func20, Try.ntmps20
    go_wp2
    go_loopw [6] (fun t wr => ∃ (k q : Nat), k ≤ 2 ∧ t = .int .i64 (2 * (j : Int) + 1 + (k : Int)) ∧ wr = w.drewN q ∧ Hid (∀ m, m < k → 2 * j + 1 + m < n → Le (K p) (K (2 * j + 1 + m)))) (fun t _ => (2 * (j : Int) + 3 - intOf t).toNat)
    case atStart => exact ⟨0, 0, by omega, vi (by omega), rfl, fun p hp => absurd hp (Nat.not_lt_zero _)⟩
    case round =>
      obtain ⟨k, q, hk, rfl, hwr, HT⟩ := hrel
      have hcell := HC.out q
      rw [← hwr] at hcell
      have HW := hide hwr
      clear hwr
      have bel : Hid (∀ q', Below w.heap.size w (wr.drewN q')) := fun q' => by rw [HW.out]; exact below_drewN (below_drewN (Below.refl _ _) _) _
      by_cases hk2 : k < 2
      · obtain ⟨x, hx⟩ : ∃ x, x = 2 * j + 1 + k := ⟨_, rfl⟩
        have ex : 2 * (j : Int) + 1 + (k : Int) = (x : Int) := by omega
        rw [ex]
        have hxle : (x : Int) ≤ 2 * (j : Int) + 2 := by omega
        have HX := hide hx
        clear ex hx
        have cp := hcell p (by omega)
        by_cases hxn : x < n
        · have c1 := hcell x hxn
          have ix : (x : Int) < (n : Int) := by omega
          have ip : (p : Int) < (n : Int) := by omega
          obtain ⟨sx, hsx⟩ : ∃ s, s = K x := ⟨_, rfl⟩
          obtain ⟨sp, hsp⟩ : ∃ s, s = K p := ⟨_, rfl⟩
          obtain ⟨r, hr⟩ : ∃ r, Op.bytesLess sx.toList sp.toList = r := ⟨_, rfl⟩
          have Hr := hide (show lessB (K x) (K p) = r by rw [← hsx, ← hsp]; exact hr)
          rw [← hsx] at c1
          rw [← hsp] at cp
          clear hsx hsp hcell
          cases r
          · go_wp2
            go_quiet (fail)
            go_wp2
            go_roundw
            case rel =>
              refine ⟨k + 1, _, by omega, vi (by have := HX.out; omega), by rw [HW.out, World.drewN_drewN], fun m hm hmn => ?_⟩
              by_cases e : m = k
              · subst e; rw [← HX.out]; exact Hr.out
              · exact HT.out m (by omega) hmn
            case measure => have := HX.out; simp [intOf]; omega
          · have hno : ¬ ChildOk K n j := fun h => by
              have := h (by omega)
              rw [← Hp.out] at this
              have hx := HX.out
              have hle : Le (K p) (K x) := by
                rcases (show k = 0 ∨ k = 1 by omega) with rfl | rfl
                · rw [hx]; exact this.1 (by omega)
                · rw [hx]; exact this.2 (by omega)
              unfold Le at hle
              rw [Hr.out] at hle; cases hle
            have HN := hide hno
            clear hno
            go_wp2
            go_quiet (fail)
            go_wp2
            go_ret
            exact ⟨Tells.no rfl HN.out, bel.out _⟩
        · have dx : decide ((x : Int) < (n : Int)) = false := decide_eq_false (by omega)
          clear hcell
          go_wp2
          go_quiet (fail)
          go_wp2
          go_roundw
          case rel =>
            refine ⟨k + 1, _, by omega, vi (by have := HX.out; omega), by rw [HW.out, World.drewN_drewN], fun m hm hmn => ?_⟩
            by_cases e : m = k
            · subst e; rw [← HX.out] at hmn; exact absurd hmn hxn
            · exact HT.out m (by omega) hmn
          case measure => have := HX.out; simp [intOf]; omega
      · obtain rfl : k = 2 := by omega
        have hgt : ¬ 2 * (j : Int) + 1 + ((2 : Nat) : Int) ≤ 2 * (j : Int) + 2 := by omega
        have hok : ChildOk K n j := fun _ => by rw [← Hp.out]; exact ⟨fun h => HT.out 0 (by omega) h, fun h => HT.out 1 (by omega) h⟩
        have HO := hide hok
        clear hok hcell
        go_wp2
        go_ret
        exact ⟨Tells.yes rfl HO.out, bel.out 0⟩

end Go.Proofs.Qxb6602318a.Sd
