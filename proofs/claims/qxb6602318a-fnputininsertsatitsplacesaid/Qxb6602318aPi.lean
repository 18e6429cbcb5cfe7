import Derived.Test.Qxb6602318aSd4
import Derived.Deep.AppendLies
import Derived.Laws.AppendOwnNone
namespace Go.Proofs.Qxb6602318a.Pi
open Go.RowKit
open Go.Proofs.Qxb6602318a.Sd (hide vi ret_bool wrap_in Fits)

/-- A slice of slices of strings that came in, as the walk reads it. -/
structure ArgRuns (w : World) (b off : Nat) (rs : List (List ByteArray)) (A : Nat → Option Addr) (C : Nat → Nat) : Prop where
  cell : ∀ k, k < rs.length → w.cell? ⟨b, off + k, none⟩ = some (.slice (A k) (rs.getD k []).length (C k))
  row : ∀ k, k < rs.length → 0 < (rs.getD k []).length → ∃ b' o', A k = some ⟨b', o', none⟩ ∧ ∀ j, j < (rs.getD k []).length → w.cell? ⟨b', o' + j, none⟩ = some (.string ((rs.getD k []).getD j ByteArray.empty))
  len : ∀ k, k < rs.length → (rs.getD k []).length ≤ maxLen
  str : ∀ k j, k < rs.length → j < (rs.getD k []).length → ((rs.getD k []).getD j ByteArray.empty).size ≤ maxLen
  n : rs.length ≤ maxLen

/-- It answers some bool; where it is yes, p holds. -/
def IfYes (e : Ending) (p : Prop) : Prop := ∃ r : Bool, e = .returned (.bool r) ∧ (r = true → p)
theorem IfYes.yes {e : Ending} {p : Prop} {r : Bool} (h : e = .returned (.bool r)) (hp : p) : IfYes e p := ⟨r, h, fun _ => hp⟩
theorem IfYes.no {e : Ending} {p : Prop} (h : e = .returned (.bool false)) : IfYes e p := ⟨false, h, fun h => by cases h⟩

set_option maxRecDepth 100000 in
set_option maxHeartbeats 2000000 in
theorem bytes26 (b off c : Nat) (rs : List (List ByteArray)) (A : Nat → Option Addr) (C : Nat → Nat) (i at' : Int) (id : ByteArray) (w : World) (n : Nat) (hrs : rs.length = n) (h : ArgRuns w b off rs A C) (hid : id.size ≤ maxLen) :
    Calls Try.prog 26 #[.slice (some ⟨b, off, none⟩) n c, .int .i64 i, .int .i64 at', .string id] w fun e w' => IfYes e True ∧ w = w' := by
  have hn := h.n
  rw [hrs] at hn
  unfold maxLen at hn hid
  have H := hide h
  clear h
  by_cases hb : n ≤ 1048576
  · have hb' : ¬ (1048576 : Int) < (n : Int) := by omega
    have hd : decide ((1048576 : Int) < (n : Int)) = false := decide_eq_false hb'
    go_enter Try.func26, Try.ntmps26
    go_wp2
    go_loop [9, 10, 11] (fun t k _ => ∃ (tt : Nat) (kk : Nat), tt ≤ 1048576 ∧ kk ≤ n ∧ t = .int .i64 tt ∧ k = .int .i64 kk) (fun _ k _ => n - (intOf k).toNat)
    case atStart => exact ⟨n, 0, hb, Nat.zero_le _, rfl, rfl⟩
    case round =>
      obtain ⟨tt, kk, ht, hk, rfl, rfl⟩ := hrel
      clear hd hb'
      by_cases hlt : kk < n
      · have hcell := H.out.cell kk (by omega)
        have hlen := H.out.len kk (by omega)
        obtain ⟨l, hl⟩ : ∃ l, l = (rs.getD kk []).length := ⟨_, rfl⟩
        rw [← hl] at hcell hlen
        have Hl := hide hl
        clear hl
        unfold maxLen at hlen
        have hrow := H.out.row kk (by omega)
        rw [← Hl.out] at hrow
        have Hrow := hide hrow
        clear hrow
        by_cases h1 : l ≤ 1048576
        · have h1' : ¬ (1048576 : Int) < (l : Int) := by omega
          by_cases h2 : tt + l ≤ 1048576
          · have h2' : ¬ (1048576 : Int) < (tt : Int) + (l : Int) := by omega
            have hd2 : decide ((1048576 : Int) < (tt : Int) + (l : Int)) = false := decide_eq_false h2'
            have hd1 : decide ((1048576 : Int) < (l : Int)) = false := decide_eq_false h1'
            by_cases hl0 : 0 < l
            · obtain ⟨b', o', hA, hrc⟩ := Hrow.out hl0
              rw [hA] at hcell
              have HR := hide hrc
              clear hA hrc Hrow
              go_wp2
              go_loop [9, 11] (fun t j => ∃ (t2 : Nat) (jj : Nat), t2 ≤ 1048576 ∧ jj ≤ l ∧ t = .int .i64 t2 ∧ j = .int .i64 jj) (fun _ j => l - (intOf j).toNat)
              case atStart => exact ⟨tt + l, 0, h2, Nat.zero_le _, vi (by omega), rfl⟩
              case round =>
                obtain ⟨t2, jj, ht2, hjj, rfl, rfl⟩ := hrel
                clear hd1 hd2 h2'
                by_cases hj : jj < l
                · have hc2 := HR.out jj hj
                  have hsz := H.out.str kk jj (by omega) (by rw [← Hl.out]; exact hj)
                  unfold maxLen at hsz
                  generalize (rs.getD kk []).getD jj ByteArray.empty = s at hc2 hsz
                  by_cases g1 : s.size ≤ 1048576
                  · have g1' : ¬ (1048576 : Int) < (s.size : Int) := by omega
                    by_cases g2 : t2 + s.size ≤ 1048576
                    · have g2' : ¬ (1048576 : Int) < (t2 : Int) + (s.size : Int) := by omega
                      go_wp2
                      go_round
                      case rel => exact ⟨t2 + s.size, jj + 1, g2, by omega, vi (by omega), vi (by omega)⟩
                      case measure => simp [intOf]; omega
                    · have g2' : (1048576 : Int) < (t2 : Int) + (s.size : Int) := by omega
                      go_wp2
                      go_ret
                      exact ⟨IfYes.yes rfl trivial, rfl⟩
                  · have g1' : (1048576 : Int) < (s.size : Int) := by omega
                    go_wp2
                    go_ret
                    exact ⟨IfYes.yes rfl trivial, rfl⟩
                · go_wp2
                  go_round
                  case rel => exact ⟨t2, kk + 1, ht2, by omega, rfl, vi (by omega)⟩
                  case measure => simp [intOf]; omega
            · obtain rfl : l = 0 := by omega
              generalize A kk = ak at hcell
              clear Hrow
              go_wp2
              refine wp_loop_rounds 1 ?_
              rw [rounds_succ]
              go_wp2
              go_round
              case rel => exact ⟨tt, kk + 1, by omega, by omega, vi (by omega), vi (by omega)⟩
              case measure => simp [intOf]; omega
          · have h2' : (1048576 : Int) < (tt : Int) + (l : Int) := by omega
            go_wp2
            go_ret
            exact ⟨IfYes.yes rfl trivial, rfl⟩
        · have h1' : (1048576 : Int) < (l : Int) := by omega
          go_wp2
          go_ret
          exact ⟨IfYes.yes rfl trivial, rfl⟩
      · by_cases h1 : id.size ≤ 1048576
        · have h1' : ¬ (1048576 : Int) < (id.size : Int) := by omega
          go_wp2
          all_goals
            go_ret
            exact ⟨IfYes.yes rfl trivial, rfl⟩
        · have h1' : (1048576 : Int) < (id.size : Int) := by omega
          go_wp2
          go_ret
          exact ⟨IfYes.yes rfl trivial, rfl⟩
  · have hb' : (1048576 : Int) < (n : Int) := by omega
    go_enter Try.func26, Try.ntmps26
    go_wp2
    go_ret
    exact ⟨IfYes.no rfl, rfl⟩

/-- How many ids the first k runs hold. -/
def sumTo (rs : List (List ByteArray)) (k : Nat) : Nat := ((rs.take k).map List.length).sum
theorem sumTo_succ (rs : List (List ByteArray)) (k : Nat) (h : k < rs.length) : sumTo rs (k + 1) = sumTo rs k + (rs.getD k []).length := by
  unfold sumTo
  rw [List.take_succ_eq_append_getElem h, List.map_append, List.sum_append, List.getD, List.getElem?_eq_getElem h]
  rfl

set_option maxRecDepth 100000 in
set_option maxHeartbeats 2000000 in
theorem fit27 (b off c : Nat) (rs : List (List ByteArray)) (A : Nat → Option Addr) (C : Nat → Nat) (id : ByteArray) (w : World) (n : Nat) (hrs : rs.length = n) (h : ArgRuns w b off rs A C) (hid : id.size ≤ maxLen) :
    Calls Try.prog 27 #[.slice (some ⟨b, off, none⟩) n c, .string id] w fun e w' => IfYes e (n ≤ 65536 ∧ 16 * sumTo rs n ≤ 1048576) ∧ w = w' := by
  have hn := h.n
  rw [hrs] at hn
  unfold maxLen at hn hid
  have H := hide h
  clear h
  obtain ⟨P, hP⟩ : ∃ P : Prop, P = (n ≤ 65536 ∧ 16 * sumTo rs n ≤ 1048576) := ⟨_, rfl⟩
  rw [← hP]
  have HP := hide hP
  clear hP
  by_cases hb : n ≤ 65536
  · have hb' : ¬ (65536 : Int) < (n : Int) := by omega
    have hd : decide ((65536 : Int) < (n : Int)) = false := decide_eq_false hb'
    by_cases hi1 : id.size ≤ 1048576
    · have hi1' : ¬ (1048576 : Int) < (id.size : Int) := by omega
      have hdi : decide ((1048576 : Int) < (id.size : Int)) = false := decide_eq_false hi1'
      by_cases ht0 : 24 * n + id.size ≤ 1048576
      · have ht0' : ¬ (1048576 : Int) < 24 * (n : Int) + (id.size : Int) := by omega
        have hdt : decide ((1048576 : Int) < 24 * (n : Int) + (id.size : Int)) = false := decide_eq_false ht0'
        go_enter Try.func27, Try.ntmps27
        go_wp2
        go_loop [5, 6, 7, 8] (fun t k _ _ => ∃ (tt : Nat) (kk : Nat), tt ≤ 1048576 ∧ kk ≤ n ∧ t = .int .i64 tt ∧ k = .int .i64 kk ∧ Hid (16 * sumTo rs kk ≤ tt)) (fun _ k _ _ => n - (intOf k).toNat)
        case atStart => exact ⟨24 * n + id.size, 0, ht0, Nat.zero_le _, vi (by omega), rfl, Nat.zero_le _⟩
        case round =>
          obtain ⟨tt, kk, ht, hk, rfl, rfl, HS⟩ := hrel
          clear hd hb' hi1' hdi ht0' hdt
          by_cases hlt : kk < n
          · have hcell := H.out.cell kk (by omega)
            have hlen := H.out.len kk (by omega)
            have hsum := sumTo_succ rs kk (by omega)
            obtain ⟨l, hl⟩ : ∃ l, l = (rs.getD kk []).length := ⟨_, rfl⟩
            rw [← hl] at hcell hlen hsum
            have Hsum := hide hsum
            have Hl := hide hl
            clear hl hsum
            unfold maxLen at hlen
            have hrow := H.out.row kk (by omega)
            rw [← Hl.out] at hrow
            have Hrow := hide hrow
            clear hrow
            by_cases h1 : l ≤ 65536
            · have h1' : ¬ (65536 : Int) < (l : Int) := by omega
              by_cases h2 : tt + 16 * l ≤ 1048576
              · have h2' : ¬ (1048576 : Int) < (tt : Int) + 16 * (l : Int) := by omega
                have hd2 : decide ((1048576 : Int) < (tt : Int) + 16 * (l : Int)) = false := decide_eq_false h2'
                have hd1 : decide ((65536 : Int) < (l : Int)) = false := decide_eq_false h1'
                by_cases hl0 : 0 < l
                · obtain ⟨b', o', hA, hrc⟩ := Hrow.out hl0
                  rw [hA] at hcell
                  have HR := hide hrc
                  clear hA hrc Hrow
                  go_wp2
                  go_loop [5, 8] (fun t j => ∃ (t2 : Nat) (jj : Nat), t2 ≤ 1048576 ∧ jj ≤ l ∧ t = .int .i64 t2 ∧ j = .int .i64 jj ∧ Hid (tt + 16 * l ≤ t2)) (fun _ j => l - (intOf j).toNat)
                  case atStart => exact ⟨tt + 16 * l, 0, h2, Nat.zero_le _, vi (by omega), rfl, Nat.le_refl _⟩
                  case round =>
                    obtain ⟨t2, jj, ht2, hjj, rfl, rfl, HT2⟩ := hrel
                    clear hd1 hd2 h2'
                    by_cases hj : jj < l
                    · have hc2 := HR.out jj hj
                      have hsz := H.out.str kk jj (by omega) (by rw [← Hl.out]; exact hj)
                      unfold maxLen at hsz
                      generalize (rs.getD kk []).getD jj ByteArray.empty = s at hc2 hsz
                      by_cases g1 : s.size ≤ 1048576
                      · have g1' : ¬ (1048576 : Int) < (s.size : Int) := by omega
                        by_cases g2 : t2 + s.size ≤ 1048576
                        · have g2' : ¬ (1048576 : Int) < (t2 : Int) + (s.size : Int) := by omega
                          go_wp2
                          go_round
                          case rel => exact ⟨t2 + s.size, jj + 1, g2, by omega, vi (by omega), vi (by omega), by show _ ≤ _; have := HT2.out; omega⟩
                          case measure => simp [intOf]; omega
                        · have g2' : (1048576 : Int) < (t2 : Int) + (s.size : Int) := by omega
                          go_wp2
                          go_ret
                          exact ⟨IfYes.no rfl, rfl⟩
                      · have g1' : (1048576 : Int) < (s.size : Int) := by omega
                        go_wp2
                        go_ret
                        exact ⟨IfYes.no rfl, rfl⟩
                    · go_wp2
                      go_round
                      case rel => exact ⟨t2, kk + 1, ht2, by omega, rfl, vi (by omega), by show _ ≤ _; have := HT2.out; have := HS.out; rw [Hsum.out]; omega⟩
                      case measure => simp [intOf]; omega
                · obtain rfl : l = 0 := by omega
                  generalize A kk = ak at hcell
                  clear Hrow
                  go_wp2
                  refine wp_loop_rounds 1 ?_
                  rw [rounds_succ]
                  go_wp2
                  go_round
                  case rel => exact ⟨tt, kk + 1, by omega, by omega, vi (by omega), vi (by omega), by show _ ≤ _; have := HS.out; rw [Hsum.out]; omega⟩
                  case measure => simp [intOf]; omega
              · have h2' : (1048576 : Int) < (tt : Int) + 16 * (l : Int) := by omega
                go_wp2
                go_ret
                exact ⟨IfYes.no rfl, rfl⟩
            · have h1' : (65536 : Int) < (l : Int) := by omega
              go_wp2
              go_ret
              exact ⟨IfYes.no rfl, rfl⟩
          · obtain rfl : kk = n := by omega
            go_wp2
            go_ret
            exact ⟨IfYes.yes rfl (by rw [HP.out]; exact ⟨hb, Nat.le_trans HS.out ht⟩), rfl⟩
      · have ht0' : (1048576 : Int) < 24 * (n : Int) + (id.size : Int) := by omega
        go_enter Try.func27, Try.ntmps27
        go_wp2
        go_ret
        exact ⟨IfYes.no rfl, rfl⟩
    · have hi1' : (1048576 : Int) < (id.size : Int) := by omega
      go_enter Try.func27, Try.ntmps27
      go_wp2
      go_ret
      exact ⟨IfYes.no rfl, rfl⟩
  · have hb' : (65536 : Int) < (n : Int) := by omega
    go_enter Try.func27, Try.ntmps27
    go_wp2
    go_ret
    exact ⟨IfYes.no rfl, rfl⟩

set_option maxHeartbeats 1000000 in
/-- zzPlaceInRange, for a set with runs. -/
theorem place28 (b off c : Nat) (rs : List (List ByteArray)) (A : Nat → Option Addr) (C : Nat → Nat) (i at' : Int) (w : World) (n : Nat) (hrs : rs.length = n) (hn0 : 0 < n) (hn : n ≤ 65536) (h : ArgRuns w b off rs A C) :
    Calls Try.prog 28 #[.slice (some ⟨b, off, none⟩) n c, .int .i64 i, .int .i64 at'] w fun e w' => IfYes e (0 ≤ i ∧ i < n ∧ 0 ≤ at' ∧ at' ≤ (rs.getD i.toNat []).length) ∧ w = w' := by
  obtain ⟨P, hP⟩ : ∃ P : Prop, P = (0 ≤ i ∧ i < n ∧ 0 ≤ at' ∧ at' ≤ (rs.getD i.toNat []).length) := ⟨_, rfl⟩
  rw [← hP]
  have HP := hide hP
  have hn0' : ((n : Int) == 0) = false := by rw [beq_eq_false_iff_ne]; omega
  clear hP
  by_cases h1 : i < 0
  · go_enter Try.func28, Try.ntmps28
    go_wp2
    go_ret
    exact ⟨IfYes.no rfl, rfl⟩
  · by_cases h2 : (n : Int) ≤ i
    · go_enter Try.func28, Try.ntmps28
      go_wp2
      go_ret
      exact ⟨IfYes.no rfl, rfl⟩
    · obtain ⟨j, rfl⟩ := Int.eq_ofNat_of_zero_le (show 0 ≤ i by omega)
      have hj : j < n := by omega
      have hcell := h.cell j (by omega)
      have hP2 := HP.out
      rw [Int.toNat_natCast] at hP2
      generalize (rs.getD j []).length = l at hcell hP2
      generalize A j = aj at hcell
      have HP2 := hide hP2
      clear hP2 h
      by_cases h3 : 0 ≤ at'
      · by_cases h4 : at' ≤ (l : Int)
        · have hd : decide (at' ≤ (l : Int)) = true := decide_eq_true h4
          have hd3 : decide (0 ≤ at') = true := decide_eq_true h3
          go_enter Try.func28, Try.ntmps28
          go_wp2
          go_ret
          exact ⟨IfYes.yes (r := true) rfl (by rw [HP2.out]; exact ⟨by omega, by omega, h3, h4⟩), rfl⟩
        · have hd : decide (at' ≤ (l : Int)) = false := decide_eq_false h4
          have hd3 : decide (0 ≤ at') = true := decide_eq_true h3
          go_enter Try.func28, Try.ntmps28
          go_wp2
          go_ret
          exact ⟨IfYes.no rfl, rfl⟩
      · have hd3 : decide (0 ≤ at') = false := decide_eq_false h3
        go_enter Try.func28, Try.ntmps28
        go_wp2
        go_ret
        exact ⟨IfYes.no rfl, rfl⟩

end Go.Proofs.Qxb6602318a.Pi
