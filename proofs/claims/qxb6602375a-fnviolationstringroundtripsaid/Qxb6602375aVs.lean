import Derived.Test.Qxb6602375aProg
import Derived.WalkKit
import Derived.WalkLawsBesides
import Derived.WalkSpells
import Derived.Deep.QuietTactic
import Derived.BigQuiet
namespace Go.Proofs.Qxb6602375a.Vs
open Go.RowKit

theorem hide {p : Prop} (h : p) : Hid p := h
theorem vi {a b : Int} (h : a = b) : Value.int .i64 a = .int .i64 b := by rw [h]
theorem ret_bool {a b : Bool} (h : a = b) : Ending.returned (.bool a) = .returned (.bool b) := by rw [h]
theorem wrap_in (n : Int) (h1 : -9223372036854775808 ≤ n) (h2 : n ≤ 9223372036854775807) : IntKind.i64.wrap n = n := by rw [IntWalk.i64_left, IntWalk.wrap64_in n ⟨h1, h2⟩]

/-- It answers some bool. -/
def SomeBool (e : Ending) : Prop := ∃ r : Bool, e = .returned (.bool r)

set_option maxHeartbeats 1000000 in
theorem bytes24 (a b c : ByteArray) (w : World) (h1 : a.size ≤ maxLen) (h2 : b.size ≤ maxLen) (h3 : c.size ≤ maxLen) : Calls Try.prog 24 #[.string a, .string b, .string c] w fun e w' => SomeBool e ∧ w = w' := by
  unfold maxLen at h1 h2 h3
  by_cases q1 : a.size ≤ 1048576
  · have q1' : ¬ (1048576 : Int) < (a.size : Int) := by omega
    by_cases q2 : b.size ≤ 1048576
    · have q2' : ¬ (1048576 : Int) < (b.size : Int) := by omega
      by_cases q3 : c.size ≤ 1048576
      · have q3' : ¬ (1048576 : Int) < (c.size : Int) := by omega
        go_enter Try.func24, Try.ntmps24
        go_wp2
        all_goals
          go_ret
          exact ⟨⟨_, rfl⟩, rfl⟩
      · have q3' : (1048576 : Int) < (c.size : Int) := by omega
        go_enter Try.func24, Try.ntmps24
        go_wp2
        all_goals
          go_ret
          exact ⟨⟨_, rfl⟩, rfl⟩
    · have q2' : (1048576 : Int) < (b.size : Int) := by omega
      go_enter Try.func24, Try.ntmps24
      go_wp2
      go_ret
      exact ⟨⟨_, rfl⟩, rfl⟩
  · have q1' : (1048576 : Int) < (a.size : Int) := by omega
    go_enter Try.func24, Try.ntmps24
    go_wp2
    go_ret
    exact ⟨⟨_, rfl⟩, rfl⟩

/-- Is there a blank among the first k bytes? -/
def hasTo (s : ByteArray) : Nat → Bool
  | 0 => false
  | k + 1 => hasTo s k || (s.data.toList.getD k 0 == 32)
theorem byte_get (s : ByteArray) (k : Nat) (h : k < s.size) : s.data.toList.getD k 0 = s[k] := by
  have h' : k < s.data.toList.length := h
  rw [List.getD, List.getElem?_eq_getElem h']; rfl
theorem byte_eq (s : ByteArray) (k : Nat) (h : k < s.size) : (((s[k]'h).toNat : Int) == 32) = (s.data.toList.getD k 0 == 32) := by
  rw [byte_get s k h, Bool.eq_iff_iff]
  simp only [beq_iff_eq]
  constructor
  · intro e
    apply UInt8.toNat_inj.1
    have : (s[k]'h).toNat = 32 := by omega
    rw [this]; rfl
  · intro e; rw [e]; rfl
theorem hasTo_mono (s : ByteArray) (k : Nat) (h : hasTo s k = true) : ∀ d, hasTo s (k + d) = true
  | 0 => h
  | d + 1 => by rw [← Nat.add_assoc, hasTo, hasTo_mono s k h d, Bool.true_or]

set_option maxHeartbeats 400000 in
theorem space25 (s : ByteArray) (w : World) (hs : s.size ≤ 262144) : Calls Try.prog 25 #[.string s] w fun e w' => e = .returned (.bool (hasTo s s.size)) ∧ w = w' := by
  go_enter Try.func25, Try.ntmps25
  go_wp2
  go_loop [3] (fun t => ∃ k : Nat, k ≤ s.size ∧ t = .int .i64 k ∧ Hid (hasTo s k = false)) (fun t => s.size - (intOf t).toNat)
  case atStart => exact ⟨0, Nat.zero_le _, rfl, rfl⟩
  case round =>
    obtain ⟨k, hk, rfl, H⟩ := hrel
    by_cases hks : k < s.size
    · have hb := byte_eq s k hks
      have hst : hasTo s (k + 1) = (hasTo s k || (s.data.toList.getD k 0 == 32)) := rfl
      obtain ⟨r, hr⟩ : ∃ r, (s.data.toList.getD k 0 == 32) = r := ⟨_, rfl⟩
      rw [hr] at hb hst
      have HS := hide hst
      clear hst hr
      cases r
      · go_wp2
        go_round
        case rel => exact ⟨k + 1, by omega, vi (by omega), by show _ = _; rw [HS.out, H.out]; rfl⟩
        case measure => simp [intOf]; omega
      · go_wp2
        go_ret
        exact ⟨ret_bool (by
          have h1 : hasTo s (k + 1) = true := by rw [HS.out, Bool.or_true]
          have := hasTo_mono s (k + 1) h1 (s.size - (k + 1))
          rw [show k + 1 + (s.size - (k + 1)) = s.size by omega] at this
          rw [this]), rfl⟩
    · obtain rfl : k = s.size := by omega
      go_wp2
      go_ret
      exact ⟨ret_bool (by rw [H.out]), rfl⟩

/-- The report line. -/
def line (a b c : ByteArray) : ByteArray := a ++ ⟨#[32]⟩ ++ b ++ ⟨#[32]⟩ ++ c

set_option maxHeartbeats 1000000 in
theorem string26 (a b c : ByteArray) (w : World) (h1 : a.size ≤ 262144) (h2 : b.size ≤ 262144) (h3 : c.size ≤ 262144) (ho : (a.toList == [111, 114, 100, 101, 114]) = false) :
    Calls Try.prog 26 #[.agg #[.string a, .string b, .string c]] w fun e w' => e = .returned (.string (line a b c)) ∧ w' = w.alloc (.cells #[.string a, .string b, .string c] 42) := by
  go_enter Try.func26, Try.ntmps26
  go_wp2
  go_ret
  exact ⟨rfl, rfl⟩

set_option maxRecDepth 100000 in
set_option maxHeartbeats 2000000 in
theorem split27 (s : ByteArray) (na nb nc : Nat) (w : World) (hs : s.size = na + nb + nc + 2) (hb : na + nb + nc ≤ 786432)
    (ha : ∀ k, k < na → (s.data.toList.getD k 0 == 32) = false) (ha2 : (s.data.toList.getD na 0 == 32) = true)
    (hm : ∀ k, k < nb → (s.data.toList.getD (na + 1 + k) 0 == 32) = false) (hm2 : (s.data.toList.getD (na + 1 + nb) 0 == 32) = true) :
    Calls Try.prog 27 #[.string s] w fun e w' => e = .returned (.tuple #[.string (s.extract 0 na), .string (s.extract (na + 1) (na + 1 + nb)), .string (s.extract (na + 1 + nb + 1) s.size), .bool true]) ∧ ∃ q, w' = w.drewN q := by
  have HA := hide ha
  have HA2 := hide ha2
  have HM := hide hm
  have HM2 := hide hm2
  have HSz := hide hs
  obtain ⟨n, hn⟩ : ∃ n, n = s.size := ⟨_, rfl⟩
  clear ha ha2 hm hm2
  have hbd : s.size ≤ 786434 := by omega
  have hlt1 : na < s.size := by omega
  have hlt2 : na + 1 + nb < s.size := by omega
  clear hs hn
  go_enter Try.func27, Try.ntmps27
  go_wp2
  go_loop [6] (fun t => ∃ k : Nat, k ≤ na ∧ t = .int .i64 k) (fun t => na - (intOf t).toNat)
  case atStart => exact ⟨0, Nat.zero_le _, rfl⟩
  case round =>
    obtain ⟨k, hk, rfl⟩ := hrel
    have hks : k < s.size := by omega
    have hbq := byte_eq s k hks
    have iks : (k : Int) < (s.size : Int) := by omega
    by_cases hkn : k < na
    · rw [HA.out k hkn] at hbq
      have hbq' : ((s[k].toNat : Int) != 32) = true := by rw [bne, hbq]; rfl
      clear hbq
      go_wp2
      go_round
      case rel => exact ⟨k + 1, by omega, vi (by omega)⟩
      case measure => simp [intOf]; omega
    · obtain rfl : na = k := by omega
      rw [HA2.out] at hbq
      have hbq' : ((s[na].toNat : Int) != 32) = false := by rw [bne, hbq]; rfl
      clear hbq
      have hne : ((na : Int) == (s.size : Int)) = false := by rw [beq_eq_false_iff_ne]; omega
      go_wp2
      go_loop [7] (fun t => ∃ k : Nat, k ≤ nb ∧ t = .int .i64 ((na + 1 + k : Nat) : Int)) (fun t => na + 1 + nb - (intOf t).toNat)
      case atStart => exact ⟨0, Nat.zero_le _, vi (by omega)⟩
      case round =>
        obtain ⟨k2, hk2, rfl⟩ := hrel
        clear hbq' hne
        obtain ⟨x, hx⟩ : ∃ x, x = na + 1 + k2 := ⟨_, rfl⟩
        rw [← hx]
        have hxs : x < s.size := by omega
        have hbx := byte_eq s x hxs
        have ixs : (x : Int) < (s.size : Int) := by omega
        by_cases hkn2 : k2 < nb
        · have h0 := HM.out k2 hkn2
          rw [← hx] at h0
          rw [h0] at hbx
          have hbq' : ((s[x].toNat : Int) != 32) = true := by rw [bne, hbx]; rfl
          have HX := hide hx
          clear hbx h0 hx
          go_wp2
          go_round
          case rel => exact ⟨k2 + 1, by omega, vi (by have := HX.out; omega)⟩
          case measure => have := HX.out; simp [intOf]; omega
        · obtain rfl : nb = k2 := by omega
          have h0 := HM2.out
          rw [← hx] at h0
          rw [h0] at hbx
          have hbq' : ((s[x].toNat : Int) != 32) = false := by rw [bne, hbx]; rfl
          have hne2 : ((x : Int) == (s.size : Int)) = false := by rw [beq_eq_false_iff_ne]; omega
          have e1 : na + 1 ≤ x := by omega
          have HX := hide hx
          clear hbx h0 hx
          have hw1 : IntKind.i64.wrap ((na : Int) + 1) = (na : Int) + 1 := wrap_in _ (by omega) (by omega)
          have hw2 : IntKind.i64.wrap ((x : Int) + 1) = (x : Int) + 1 := wrap_in _ (by omega) (by omega)
          have b1 : (na : Int) + 1 ≤ (x : Int) := by omega
          have b2 : (x : Int) + 1 ≤ (s.size : Int) := by omega
          have b3 : (0 : Int) ≤ (na : Int) + 1 := by omega
          have b4 : (0 : Int) ≤ (x : Int) + 1 := by omega
          have b5 : (x : Int) ≤ (s.size : Int) := by omega
          have b6 : (na : Int) ≤ (s.size : Int) := by omega
          go_wp2
          go_quiet (fail)
          go_wp2
          exact bodyPost_ret (v := .tuple #[.string (s.extract 0 na), .string (s.extract (na + 1) x), .string (s.extract (x + 1) s.size), .bool true]) (by simp [results, Try.results27, go_sem]) rfl ⟨by rw [HX.out], nq, rfl⟩
end Go.Proofs.Qxb6602375a.Vs
