import Derived.Test.Qxb6602318aProg
import Derived.WalkKit
import Derived.WalkLawsBesides
import Derived.WalkSpells
import Derived.Deep.QuietTactic
import Derived.BigQuiet
import Derived.Deep.OwnRows
namespace Go.Proofs.Qxb6602318a.Sd
open Go.RowKit

theorem hide {p : Prop} (h : p) : Hid p := h
theorem vi {a b : Int} (h : a = b) : Value.int .i64 a = .int .i64 b := by rw [h]
theorem ret_bool {a b : Bool} (h : a = b) : Ending.returned (.bool a) = .returned (.bool b) := by rw [h]
theorem wrap_in (n : Int) (h1 : -9223372036854775808 ≤ n) (h2 : n ≤ 9223372036854775807) : IntKind.i64.wrap n = n := by rw [IntWalk.i64_left, IntWalk.wrap64_in n ⟨h1, h2⟩]

/-- It answers some bool; where it is yes, n is at most m. -/
def Fits (e : Ending) (n m : Nat) : Prop := ∃ r : Bool, e = .returned (.bool r) ∧ (r = true → n ≤ m)
theorem Fits.yes {e : Ending} {n m : Nat} {r : Bool} (h : e = .returned (.bool r)) (hp : n ≤ m) : Fits e n m := ⟨r, h, fun _ => hp⟩
theorem Fits.no {e : Ending} {n m : Nat} (h : e = .returned (.bool false)) : Fits e n m := ⟨false, h, fun h => by cases h⟩

/-- The ids of a slice of strings lie in memory. -/
def Ids (w : World) (b off : Nat) (ss : List ByteArray) : Prop := ∀ i, i < ss.length → w.cell? ⟨b, off + i, none⟩ = some (.string (ss.getD i ByteArray.empty))

set_option maxHeartbeats 400000 in
theorem bytes25 (b off c : Nat) (ss : List ByteArray) (i : Int) (w : World) (hn : ss.length ≤ maxLen) (hs : ∀ s ∈ ss, s.size ≤ maxLen) (hc : Ids w b off ss) :
    Calls Try.prog 25 #[.slice (some ⟨b, off, none⟩) ss.length c, .int .i64 i] w fun e w' => Fits e ss.length 1048576 ∧ w = w' := by
  unfold maxLen at hn
  by_cases hb : ss.length ≤ 1048576
  · have hb' : ¬ (1048576 : Int) < (ss.length : Int) := by omega
    have hd : decide ((1048576 : Int) < (ss.length : Int)) = false := decide_eq_false hb'
    go_enter Try.func25, Try.ntmps25
    go_wp2
    go_loop [5, 6] (fun t k => ∃ (tt : Nat) (kk : Nat), tt ≤ 1048576 ∧ kk ≤ ss.length ∧ t = .int .i64 tt ∧ k = .int .i64 kk) (fun _ k => ss.length - (intOf k).toNat)
    case atStart => exact ⟨ss.length, 0, hb, Nat.zero_le _, rfl, rfl⟩
    case round =>
      obtain ⟨tt, kk, ht, hk, rfl, rfl⟩ := hrel
      by_cases hlt : kk < ss.length
      · obtain ⟨s, hs0⟩ : ∃ s, s = ss.getD kk ByteArray.empty := ⟨_, rfl⟩
        have hcell : w.cell? ⟨b, off + kk, none⟩ = some (.string s) := by rw [hs0]; exact hc kk hlt
        have hsz : s.size ≤ maxLen := hs s (by rw [hs0]; simp [List.getD, List.getElem?_eq_getElem hlt])
        unfold maxLen at hsz
        clear hs0 hd hb'
        by_cases h1 : s.size ≤ 1048576
        · have h1' : ¬ (1048576 : Int) < (s.size : Int) := by omega
          by_cases h2 : tt + s.size ≤ 1048576
          · have h2' : ¬ (1048576 : Int) < (tt : Int) + (s.size : Int) := by omega
            go_wp2
            go_round
            case rel => exact ⟨tt + s.size, kk + 1, h2, by omega, vi (by omega), vi (by omega)⟩
            case measure => simp [intOf]; omega
          · have h2' : (1048576 : Int) < (tt : Int) + (s.size : Int) := by omega
            go_wp2
            go_ret
            exact ⟨Fits.yes rfl hb, rfl⟩
        · have h1' : (1048576 : Int) < (s.size : Int) := by omega
          go_wp2
          go_ret
          exact ⟨Fits.yes rfl hb, rfl⟩
      · clear hd hb'
        go_wp2
        go_ret
        exact ⟨Fits.yes rfl hb, rfl⟩
  · have hb' : (1048576 : Int) < (ss.length : Int) := by omega
    go_enter Try.func25, Try.ntmps25
    go_wp2
    go_ret
    exact ⟨Fits.no rfl, rfl⟩


set_option maxHeartbeats 400000 in
theorem bytes17 (b off c : Nat) (ss : List ByteArray) (i : Int) (w : World) (hn : ss.length ≤ maxLen) (hs : ∀ s ∈ ss, s.size ≤ maxLen) (hc : Ids w b off ss) :
    Calls Try.prog 17 #[.slice (some ⟨b, off, none⟩) ss.length c, .int .i64 i] w fun e w' => Fits e ss.length 1048576 ∧ w = w' := by
  unfold maxLen at hn
  by_cases hb : ss.length ≤ 1048576
  · have hb' : ¬ (1048576 : Int) < (ss.length : Int) := by omega
    have hd : decide ((1048576 : Int) < (ss.length : Int)) = false := decide_eq_false hb'
    go_enter Try.func17, Try.ntmps17
    go_wp2
    go_loop [5, 6] (fun t k => ∃ (tt : Nat) (kk : Nat), tt ≤ 1048576 ∧ kk ≤ ss.length ∧ t = .int .i64 tt ∧ k = .int .i64 kk) (fun _ k => ss.length - (intOf k).toNat)
    case atStart => exact ⟨ss.length, 0, hb, Nat.zero_le _, rfl, rfl⟩
    case round =>
      obtain ⟨tt, kk, ht, hk, rfl, rfl⟩ := hrel
      by_cases hlt : kk < ss.length
      · obtain ⟨s, hs0⟩ : ∃ s, s = ss.getD kk ByteArray.empty := ⟨_, rfl⟩
        have hcell : w.cell? ⟨b, off + kk, none⟩ = some (.string s) := by rw [hs0]; exact hc kk hlt
        have hsz : s.size ≤ maxLen := hs s (by rw [hs0]; simp [List.getD, List.getElem?_eq_getElem hlt])
        unfold maxLen at hsz
        clear hs0 hd hb'
        by_cases h1 : s.size ≤ 1048576
        · have h1' : ¬ (1048576 : Int) < (s.size : Int) := by omega
          by_cases h2 : tt + s.size ≤ 1048576
          · have h2' : ¬ (1048576 : Int) < (tt : Int) + (s.size : Int) := by omega
            go_wp2
            go_round
            case rel => exact ⟨tt + s.size, kk + 1, h2, by omega, vi (by omega), vi (by omega)⟩
            case measure => simp [intOf]; omega
          · have h2' : (1048576 : Int) < (tt : Int) + (s.size : Int) := by omega
            go_wp2
            go_ret
            exact ⟨Fits.yes rfl hb, rfl⟩
        · have h1' : (1048576 : Int) < (s.size : Int) := by omega
          go_wp2
          go_ret
          exact ⟨Fits.yes rfl hb, rfl⟩
      · clear hd hb'
        go_wp2
        go_ret
        exact ⟨Fits.yes rfl hb, rfl⟩
  · have hb' : (1048576 : Int) < (ss.length : Int) := by omega
    go_enter Try.func17, Try.ntmps17
    go_wp2
    go_ret
    exact ⟨Fits.no rfl, rfl⟩

set_option maxHeartbeats 400000 in
theorem fit18 (b off c : Nat) (ss : List ByteArray) (w : World) (hn : ss.length ≤ 1048576) (hs : ∀ s ∈ ss, s.size ≤ maxLen) (hc : Ids w b off ss) :
    Calls Try.prog 18 #[.slice (some ⟨b, off, none⟩) ss.length c] w fun e w' => Fits e ss.length 65536 ∧ w = w' := by
  by_cases hb : ss.length ≤ 65536
  · have hb' : ¬ (65536 : Int) < (ss.length : Int) := by omega
    have hd : decide ((65536 : Int) < (ss.length : Int)) = false := decide_eq_false hb'
    go_enter Try.func18, Try.ntmps18
    go_wp2
    go_loop [3, 4] (fun t k => ∃ (tt : Nat) (kk : Nat), tt ≤ 1048576 ∧ kk ≤ ss.length ∧ t = .int .i64 tt ∧ k = .int .i64 kk) (fun _ k => ss.length - (intOf k).toNat)
    case atStart => exact ⟨16 * ss.length, 0, by omega, Nat.zero_le _, vi (by omega), rfl⟩
    case round =>
      obtain ⟨tt, kk, ht, hk, rfl, rfl⟩ := hrel
      by_cases hlt : kk < ss.length
      · obtain ⟨s, hs0⟩ : ∃ s, s = ss.getD kk ByteArray.empty := ⟨_, rfl⟩
        have hcell : w.cell? ⟨b, off + kk, none⟩ = some (.string s) := by rw [hs0]; exact hc kk hlt
        have hsz : s.size ≤ maxLen := hs s (by rw [hs0]; simp [List.getD, List.getElem?_eq_getElem hlt])
        unfold maxLen at hsz
        clear hs0 hd hb'
        by_cases h1 : s.size ≤ 1048576
        · have h1' : ¬ (1048576 : Int) < (s.size : Int) := by omega
          by_cases h2 : tt + s.size ≤ 1048576
          · have h2' : ¬ (1048576 : Int) < (tt : Int) + (s.size : Int) := by omega
            go_wp2
            go_round
            case rel => exact ⟨tt + s.size, kk + 1, h2, by omega, vi (by omega), vi (by omega)⟩
            case measure => simp [intOf]; omega
          · have h2' : (1048576 : Int) < (tt : Int) + (s.size : Int) := by omega
            go_wp2
            go_ret
            exact ⟨Fits.yes rfl hb, rfl⟩
        · have h1' : (1048576 : Int) < (s.size : Int) := by omega
          go_wp2
          go_ret
          exact ⟨Fits.yes rfl hb, rfl⟩
      · clear hd hb'
        go_wp2
        go_ret
        exact ⟨Fits.yes rfl hb, rfl⟩
  · have hb' : (65536 : Int) < (ss.length : Int) := by omega
    go_enter Try.func18, Try.ntmps18
    go_wp2
    go_ret
    exact ⟨Fits.no rfl, rfl⟩

/-- Does place p lie in the subtree of place i? (f: steps left.) -/
def anc : Nat → Nat → Nat → Bool
  | 0, p, i => p == i
  | f + 1, p, i => if i < p then anc f ((p - 1) / 2) i else p == i
theorem anc_more : ∀ f g p i, p ≤ f → p ≤ g → anc f p i = anc g p i
  | 0, 0, _, _, _, _ => rfl
  | 0, g + 1, p, i, h, _ => by
    have : p = 0 := by omega
    subst this; simp [anc]
  | f + 1, 0, p, i, _, h => by
    have : p = 0 := by omega
    subst this; simp [anc]
  | f + 1, g + 1, p, i, h1, h2 => by
    simp only [anc]
    split
    · exact anc_more f g _ i (by omega) (by omega)
    · rfl
/-- Does place p lie in the subtree of place i? -/
def inSub (p i : Nat) : Bool := anc p p i
theorem inSub_up (p i : Nat) (h : i < p) : inSub p i = inSub ((p - 1) / 2) i := by
  unfold inSub
  cases p with
  | zero => omega
  | succ p =>
    rw [anc, if_pos h]
    exact anc_more _ _ _ _ (by omega) (Nat.le_refl _)
theorem inSub_at (p i : Nat) (h : ¬ i < p) : inSub p i = (p == i) := by
  unfold inSub
  cases p with
  | zero => rfl
  | succ p => rw [anc, if_neg h]

set_option maxHeartbeats 400000 in
theorem sub24 (p i : Nat) (w : World) (hp : p ≤ 1048576) (hi : i ≤ 1048576) :
    Calls Try.prog 24 #[.int .i64 p, .int .i64 i] w fun e w' => e = .returned (.bool (inSub p i)) ∧ w = w' := by
  go_enter Try.func24, Try.ntmps24
  go_wp2
  go_loop [0] (fun t => ∃ (q : Nat), q ≤ p ∧ t = .int .i64 q ∧ Hid (inSub q i = inSub p i)) (fun t => (intOf t).toNat)
  case atStart => exact ⟨p, Nat.le_refl _, rfl, rfl⟩
  case round =>
    obtain ⟨q, hq, rfl, H⟩ := hrel
    by_cases hlt : i < q
    · have h1 : (i : Int) < (q : Int) := by omega
      have hu := inSub_up q i hlt
      have HU := hide hu
      clear hu
      go_wp2
      go_round
      case rel => exact ⟨(q - 1) / 2, by omega, vi (by omega), by show _ = _; rw [← HU.out]; exact H.out⟩
      case measure => simp [intOf]; omega
    · have h1 : ¬ (i : Int) < (q : Int) := by omega
      have HU := hide (inSub_at q i hlt)
      go_wp2
      go_ret
      exact ⟨ret_bool (by rw [← H.out, HU.out, Bool.eq_iff_iff]; simp; omega), rfl⟩

end Go.Proofs.Qxb6602318a.Sd
