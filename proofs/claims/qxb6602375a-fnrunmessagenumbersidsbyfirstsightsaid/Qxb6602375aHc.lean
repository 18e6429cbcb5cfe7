import Derived.Test.Qxb6602375aProg
import Derived.WalkKit
import Derived.WalkLawsBesides
import Derived.WalkSpells
import Derived.Deep.QuietTactic
import Derived.BigQuiet
import Derived.Deep.OwnRows
import Derived.Deep.AppendLies
import Derived.Laws.AppendOwnNone
namespace Go.Proofs.Qxb6602375a.Hc
open Go.RowKit

theorem hide {p : Prop} (h : p) : Hid p := h
theorem vi {a b : Int} (h : a = b) : Value.int .i64 a = .int .i64 b := by rw [h]
theorem ret_bool {a b : Bool} (h : a = b) : Ending.returned (.bool a) = .returned (.bool b) := by rw [h]
theorem wrap_in (n : Int) (h1 : -9223372036854775808 ≤ n) (h2 : n ≤ 9223372036854775807) : IntKind.i64.wrap n = n := by rw [IntWalk.i64_left, IntWalk.wrap64_in n ⟨h1, h2⟩]

/-- It answers some bool. -/
def SomeBool (e : Ending) : Prop := ∃ r : Bool, e = .returned (.bool r)
/-- It answers some bool; where it is b, p holds. -/
def IfIs (b : Bool) (e : Ending) (p : Prop) : Prop := ∃ r : Bool, e = .returned (.bool r) ∧ (r = b → p)
theorem IfIs.yes {b : Bool} {e : Ending} {p : Prop} {r : Bool} (h : e = .returned (.bool r)) (hp : p) : IfIs b e p := ⟨r, h, fun _ => hp⟩
theorem IfIs.no {b : Bool} {e : Ending} {p : Prop} (h : e = .returned (.bool (!b))) : IfIs b e p := ⟨!b, h, fun h => by cases b <;> cases h⟩

/-- A slice of slices of ints that came in, as the walk reads it. -/
structure ArgRows (w : World) (b off : Nat) (rs : List (List Int)) (A : Nat → Option Addr) (C : Nat → Nat) : Prop where
  cell : ∀ k, k < rs.length → w.cell? ⟨b, off + k, none⟩ = some (.slice (A k) (rs.getD k []).length (C k))
  row : ∀ k, k < rs.length → 0 < (rs.getD k []).length → ∃ b' o', A k = some ⟨b', o', none⟩ ∧ ∀ j, j < (rs.getD k []).length → w.cell? ⟨b', o' + j, none⟩ = some (.int .i64 ((rs.getD k []).getD j 0))
  len : ∀ k, k < rs.length → (rs.getD k []).length ≤ maxLen
  n : rs.length ≤ maxLen

set_option maxRecDepth 100000 in
set_option maxHeartbeats 2000000 in
theorem bytes8 (b off c : Nat) (rs : List (List Int)) (A : Nat → Option Addr) (C : Nat → Nat) (w : World) (n : Nat) (hrs : rs.length = n) (h : ArgRows w b off rs A C) :
    Calls Try.prog 8 #[.slice (some ⟨b, off, none⟩) n c] w fun e w' => SomeBool e ∧ w = w' := by
  have hn := h.n
  rw [hrs] at hn
  unfold maxLen at hn
  have H := hide h
  clear h
  by_cases hb : n ≤ 1048576
  · have hb' : ¬ (1048576 : Int) < (n : Int) := by omega
    have hd : decide ((1048576 : Int) < (n : Int)) = false := decide_eq_false hb'
    go_enter Try.func8, Try.ntmps8
    go_wp2
    go_loop [3, 4] (fun t k => ∃ (tt : Nat) (kk : Nat), tt ≤ 1048576 ∧ kk ≤ n ∧ t = .int .i64 tt ∧ k = .int .i64 kk) (fun _ k => n - (intOf k).toNat)
    case atStart => exact ⟨n, 0, hb, Nat.zero_le _, rfl, rfl⟩
    case round =>
      obtain ⟨tt, kk, ht, hk, rfl, rfl⟩ := hrel
      clear hd hb'
      by_cases hlt : kk < n
      · have hcell := H.out.cell kk (by omega)
        have hlen := H.out.len kk (by omega)
        generalize (rs.getD kk []).length = l at hcell hlen
        generalize A kk = ak at hcell
        unfold maxLen at hlen
        by_cases h1 : l ≤ 1048576
        · have h1' : ¬ (1048576 : Int) < (l : Int) := by omega
          by_cases h2 : tt + l ≤ 1048576
          · have h2' : ¬ (1048576 : Int) < (tt : Int) + (l : Int) := by omega
            go_wp2
            go_round
            case rel => exact ⟨tt + l, kk + 1, h2, by omega, vi (by omega), vi (by omega)⟩
            case measure => simp [intOf]; omega
          · have h2' : (1048576 : Int) < (tt : Int) + (l : Int) := by omega
            go_wp2
            go_ret
            exact ⟨⟨_, rfl⟩, rfl⟩
        · have h1' : (1048576 : Int) < (l : Int) := by omega
          go_wp2
          go_ret
          exact ⟨⟨_, rfl⟩, rfl⟩
      · go_wp2
        go_ret
        exact ⟨⟨_, rfl⟩, rfl⟩
  · have hb' : (1048576 : Int) < (n : Int) := by omega
    go_enter Try.func8, Try.ntmps8
    go_wp2
    go_ret
    exact ⟨⟨_, rfl⟩, rfl⟩

set_option maxRecDepth 100000 in
set_option maxHeartbeats 2000000 in
theorem big9 (b off c : Nat) (rs : List (List Int)) (A : Nat → Option Addr) (C : Nat → Nat) (w : World) (n : Nat) (hrs : rs.length = n) (h : ArgRows w b off rs A C) :
    Calls Try.prog 9 #[.slice (some ⟨b, off, none⟩) n c] w fun e w' => IfIs false e (n ≤ 131072 ∧ ∀ k, k < n → (rs.getD k []).length ≤ 131072) ∧ w = w' := by
  have hn := h.n
  rw [hrs] at hn
  unfold maxLen at hn
  have H := hide h
  clear h
  obtain ⟨P, hP⟩ : ∃ P : Prop, P = (n ≤ 131072 ∧ ∀ k, k < n → (rs.getD k []).length ≤ 131072) := ⟨_, rfl⟩
  rw [← hP]
  have HP := hide hP
  clear hP
  by_cases hb : n ≤ 131072
  · have hb' : ¬ (131072 : Int) < (n : Int) := by omega
    have hd : decide ((131072 : Int) < (n : Int)) = false := decide_eq_false hb'
    by_cases hb2 : 24 * n ≤ 1048576
    · have hb2' : ¬ (1048576 : Int) < 24 * (n : Int) := by omega
      have hd2 : decide ((1048576 : Int) < 24 * (n : Int)) = false := decide_eq_false hb2'
      go_enter Try.func9, Try.ntmps9
      go_wp2
      go_loop [3, 4] (fun t k => ∃ (tt : Nat) (kk : Nat), tt ≤ 1048576 ∧ kk ≤ n ∧ t = .int .i64 tt ∧ k = .int .i64 kk ∧ Hid (∀ k, k < kk → (rs.getD k []).length ≤ 131072)) (fun _ k => n - (intOf k).toNat)
      case atStart => exact ⟨24 * n, 0, hb2, Nat.zero_le _, vi (by omega), rfl, fun k hk => absurd hk (Nat.not_lt_zero _)⟩
      case round =>
        obtain ⟨tt, kk, ht, hk, rfl, rfl, HS⟩ := hrel
        clear hd hb' hd2 hb2'
        by_cases hlt : kk < n
        · have hcell := H.out.cell kk (by omega)
          have hlen := H.out.len kk (by omega)
          obtain ⟨l, hl⟩ : ∃ l, l = (rs.getD kk []).length := ⟨_, rfl⟩
          rw [← hl] at hcell hlen
          have Hl := hide hl
          clear hl
          generalize A kk = ak at hcell
          unfold maxLen at hlen
          by_cases h1 : l ≤ 131072
          · have h1' : ¬ (131072 : Int) < (l : Int) := by omega
            by_cases h2 : tt + 8 * l ≤ 1048576
            · have h2' : ¬ (1048576 : Int) < (tt : Int) + 8 * (l : Int) := by omega
              go_wp2
              go_round
              case rel => exact ⟨tt + 8 * l, kk + 1, h2, by omega, vi (by omega), vi (by omega), fun k hk' => by
                by_cases e : k = kk
                · subst e; rw [← Hl.out]; exact h1
                · exact HS.out k (by omega)⟩
              case measure => simp [intOf]; omega
            · have h2' : (1048576 : Int) < (tt : Int) + 8 * (l : Int) := by omega
              go_wp2
              go_ret
              exact ⟨IfIs.no rfl, rfl⟩
          · have h1' : (131072 : Int) < (l : Int) := by omega
            go_wp2
            go_ret
            exact ⟨IfIs.no rfl, rfl⟩
        · obtain rfl : kk = n := by omega
          go_wp2
          go_ret
          exact ⟨IfIs.yes rfl (by rw [HP.out]; exact ⟨hb, HS.out⟩), rfl⟩
    · have hb2' : (1048576 : Int) < 24 * (n : Int) := by omega
      go_enter Try.func9, Try.ntmps9
      go_wp2
      go_ret
      exact ⟨IfIs.no rfl, rfl⟩
  · have hb' : (131072 : Int) < (n : Int) := by omega
    go_enter Try.func9, Try.ntmps9
    go_wp2
    go_ret
    exact ⟨IfIs.no rfl, rfl⟩

set_option maxRecDepth 100000 in
set_option maxHeartbeats 2000000 in
theorem heads10 (b off c : Nat) (rs : List (List Int)) (A : Nat → Option Addr) (C : Nat → Nat) (w : World) (n : Nat) (hrs : rs.length = n) (hn : n ≤ 131072) (hls : ∀ k, k < n → (rs.getD k []).length ≤ 131072) (h : ArgRows w b off rs A C) :
    Calls Try.prog 10 #[.slice (some ⟨b, off, none⟩) n c] w fun e w' => IfIs true e (∀ k j, k < n → j < (rs.getD k []).length → 0 ≤ (rs.getD k []).getD j 0 ∧ (rs.getD k []).getD j 0 < n) ∧ w = w' := by
  have H := hide h
  have HL := hide hls
  clear h hls
  obtain ⟨P, hP⟩ : ∃ P : Prop, P = (∀ k j, k < n → j < (rs.getD k []).length → 0 ≤ (rs.getD k []).getD j 0 ∧ (rs.getD k []).getD j 0 < n) := ⟨_, rfl⟩
  rw [← hP]
  have HP := hide hP
  clear hP
  go_enter Try.func10, Try.ntmps10
  go_wp2
  go_loop [3, 4] (fun k _ => ∃ (kk : Nat), kk ≤ n ∧ k = .int .i64 kk ∧ Hid (∀ k j, k < kk → j < (rs.getD k []).length → 0 ≤ (rs.getD k []).getD j 0 ∧ (rs.getD k []).getD j 0 < n)) (fun k _ => n - (intOf k).toNat)
  case atStart => exact ⟨0, Nat.zero_le _, rfl, fun k j hk => absurd hk (Nat.not_lt_zero _)⟩
  case round =>
    obtain ⟨kk, hk, rfl, HS⟩ := hrel
    by_cases hlt : kk < n
    · have hcell := H.out.cell kk (by omega)
      have hlen := HL.out kk (by omega)
      have hrow := H.out.row kk (by omega)
      obtain ⟨l, hl⟩ : ∃ l, l = (rs.getD kk []).length := ⟨_, rfl⟩
      rw [← hl] at hcell hlen hrow
      have Hl := hide hl
      have Hrow := hide hrow
      clear hl hrow
      obtain ⟨ak, hak⟩ : ∃ ak, ak = A kk := ⟨_, rfl⟩
      rw [← hak] at hcell
      have Hak := hide hak
      clear hak
      go_wp2
      go_loop [4] (fun j => ∃ (jj : Nat), jj ≤ l ∧ j = .int .i64 jj ∧ Hid (∀ j, j < jj → 0 ≤ (rs.getD kk []).getD j 0 ∧ (rs.getD kk []).getD j 0 < n)) (fun j => l - (intOf j).toNat)
      case atStart => exact ⟨0, Nat.zero_le _, rfl, fun j hj => absurd hj (Nat.not_lt_zero _)⟩
      case round =>
        obtain ⟨jj, hjj, rfl, HJ⟩ := hrel
        by_cases hj : jj < l
        · obtain ⟨b', o', hA, hrc⟩ := Hrow.out (by omega)
          rw [← Hak.out] at hA
          subst hA
          have hc2 := hrc jj hj
          clear hrc
          obtain ⟨x, hx⟩ : ∃ x, x = (rs.getD kk []).getD jj 0 := ⟨_, rfl⟩
          rw [← hx] at hc2
          have Hx := hide hx
          clear hx
          by_cases g1 : 0 ≤ x
          · have g1' : ¬ x < 0 := by omega
            by_cases g2 : x < n
            · have g2' : ¬ (n : Int) ≤ x := by omega
              go_wp2
              go_round
              case rel => exact ⟨jj + 1, by omega, vi (by omega), fun j hj' => by
                by_cases e : j = jj
                · subst e; rw [← Hx.out]; exact ⟨g1, g2⟩
                · exact HJ.out j (by omega)⟩
              case measure => simp [intOf]; omega
            · have g2' : (n : Int) ≤ x := by omega
              go_wp2
              go_ret
              exact ⟨IfIs.no rfl, rfl⟩
          · have g1' : x < 0 := by omega
            go_wp2
            go_ret
            exact ⟨IfIs.no rfl, rfl⟩
        · obtain rfl : jj = l := by omega
          go_wp2
          go_round
          case rel => exact ⟨kk + 1, by omega, vi (by omega), fun k j hk' hj' => by
            by_cases e : k = kk
            · subst e; exact HJ.out j (by rw [Hl.out]; exact hj')
            · exact HS.out k j (by omega) hj'⟩
          case measure => simp [intOf]; omega
    · obtain rfl : kk = n := by omega
      go_wp2
      go_ret
      exact ⟨IfIs.yes rfl (by rw [HP.out]; exact HS.out), rfl⟩
end Go.Proofs.Qxb6602375a.Hc
