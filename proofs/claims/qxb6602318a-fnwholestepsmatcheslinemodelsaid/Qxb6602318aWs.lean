import Derived.Test.Qxb6602318aProg
import Derived.WalkKit
import Derived.WalkLawsBesides
import Derived.WalkSpells
import Derived.Deep.QuietTactic
import Derived.BigQuiet
import Derived.Laws.BytesArg
import Derived.Laws.CopyOwn
import Derived.Lib.SlBytesConst
namespace Go.Proofs.Qxb6602318a.Ws
open Go.RowKit

/-- The last place below k that holds c, or -1. -/
def lastTo (xs : List Int) (c : Int) : Nat → Int
  | 0 => -1
  | k + 1 => if xs.getD k 0 = c then (k : Int) else lastTo xs c k

theorem hide {p : Prop} (h : p) : Hid p := h
theorem ret_int {k : IntKind} {a b : Int} (h : a = b) : Ending.returned (.int k a) = .returned (.int k b) := by rw [h]
theorem wrap_in (n : Int) (h1 : -9223372036854775808 ≤ n) (h2 : n ≤ 9223372036854775807) : IntKind.i64.wrap n = n := by rw [IntWalk.i64_left, IntWalk.wrap64_in n ⟨h1, h2⟩]
theorem ret_bool {a b : Bool} (h : a = b) : Ending.returned (.bool a) = .returned (.bool b) := by rw [h]

set_option maxHeartbeats 400000 in
theorem lastIndexByte_any (b off n c : Nat) (xs : List Int) (ch : Int) (w : World) (hx : xs.length = n) (hn : n ≤ 1048576)
    (hc : ∀ i, i < n → w.cell? ⟨b, off + i, none⟩ = some (.int .u8 (xs.getD i 0))) :
    Calls Try.prog 53 #[.slice (some ⟨b, off, none⟩) n c, .int .u8 ch] w fun e w' => e = .returned (.int .i64 (lastTo xs ch n)) ∧ w' = w := by
  go_enter Try.func53, Try.ntmps53
  go_wp2
  go_loop [5] (fun i => ∃ k : Nat, k ≤ n ∧ i = .int .i64 ((k : Int) - 1) ∧ Hid (lastTo xs ch k = lastTo xs ch n)) (fun i => (intOf i + 1).toNat)
  case atStart => exact ⟨n, Nat.le_refl _, rfl, rfl⟩
  case round =>
    obtain ⟨k, hk, rfl, hl⟩ := hrel
    cases k with
    | zero =>
      go_wp2
      go_ret
      exact ⟨ret_int (by rw [← hl.out]; rfl), rfl⟩
    | succ k =>
      have hcell := hc k (by omega)
      by_cases hq : xs.getD k 0 = ch
      · have hq' : (xs[k]?.getD 0 == ch) = true := by simpa using hq
        go_wp2
        go_ret
        exact ⟨ret_int (by rw [← hl.out, lastTo, if_pos hq]), rfl⟩
      · have hq' : (xs[k]?.getD 0 == ch) = false := by simpa using hq
        go_wp2
        go_round
        case rel => exact ⟨k, by omega, rfl, by show _ = _; rw [← hl.out, lastTo, if_neg hq]⟩
        case measure => simp [intOf]

set_option maxHeartbeats 400000 in
theorem bytesLastIndexByte_any (b off n c : Nat) (xs : List Int) (ch : Int) (w : World) (hx : xs.length = n) (hn : n ≤ 1048576)
    (hc : ∀ i, i < n → w.cell? ⟨b, off + i, none⟩ = some (.int .u8 (xs.getD i 0))) :
    Calls Try.prog 47 #[.slice (some ⟨b, off, none⟩) n c, .int .u8 ch] w fun e w' => e = .returned (.int .i64 (lastTo xs ch n)) ∧ w' = w := by
  go_enter Try.func47, Try.ntmps47
  go_wp2_with (go_at_call 53; refine (lastIndexByte_any _ _ _ _ xs _ _ hx hn hc).mono ?_; rintro e w' ⟨rfl, rfl⟩)
  go_ret
  exact ⟨rfl, rfl⟩

/-- Does xs begin with ys? -/
def pfx (xs ys : List Int) : Bool := decide (ys.length ≤ xs.length) && (xs.take ys.length == ys)

theorem ofNat_inj {x y : Int} (hx : 0 ≤ x ∧ x ≤ 255) (hy : 0 ≤ y ∧ y ≤ 255) (h : UInt8.ofNat x.toNat = UInt8.ofNat y.toNat) : x = y := by
  have := congrArg UInt8.toNat h
  simp at this
  omega
theorem map_inj : ∀ (xs ys : List Int), (∀ x ∈ xs, 0 ≤ x ∧ x ≤ 255) → (∀ x ∈ ys, 0 ≤ x ∧ x ≤ 255) → (xs.map fun n => UInt8.ofNat n.toNat) = (ys.map fun n => UInt8.ofNat n.toNat) → xs = ys
  | [], [], _, _, _ => rfl
  | [], _ :: _, _, _, h => by simp at h
  | _ :: _, [], _, _, h => by simp at h
  | x :: xs, y :: ys, hx, hy, h => by
    simp only [List.map_cons, List.cons.injEq] at h
    rw [ofNat_inj (hx x (by simp)) (hy y (by simp)) h.1, map_inj xs ys (fun z hz => hx z (by simp [hz])) (fun z hz => hy z (by simp [hz])) h.2]
theorem str_eq (xs ys : List Int) (hx : ∀ x ∈ xs, 0 ≤ x ∧ x ≤ 255) (hy : ∀ x ∈ ys, 0 ≤ x ∧ x ≤ 255) : ((strOfNums xs).toList == (strOfNums ys).toList) = (xs == ys) := by
  rw [ByteArray.toList_eq, ByteArray.toList_eq, strOfNums_data, strOfNums_data]
  by_cases h : xs = ys
  · simp [h]
  · have h2 : ¬ (xs.map fun n => UInt8.ofNat n.toNat) = (ys.map fun n => UInt8.ofNat n.toNat) := fun e => h (map_inj xs ys hx hy e)
    rw [beq_eq_false_iff_ne.2 h, beq_eq_false_iff_ne.2 h2]

set_option maxHeartbeats 400000 in
theorem equal_any (v1 v2 : Value) (xs ys : List Int) (w : World) (hx : ∀ x ∈ xs, 0 ≤ x ∧ x ≤ 255) (hy : ∀ x ∈ ys, 0 ≤ x ∧ x ≤ 255)
    (h1 : (convert 22 9 v1).run Try.prog w = .ok (.string (strOfNums xs)) w) (h2 : (convert 22 9 v2).run Try.prog w = .ok (.string (strOfNums ys)) w) :
    Calls Try.prog 52 #[v1, v2] w fun e w' => e = .returned (.bool (xs == ys)) ∧ w' = w := by
  rw [← str_eq xs ys hx hy]
  go_enter Try.func52, Try.ntmps52
  go_wp2
  go_ret
  exact ⟨rfl, rfl⟩

set_option maxHeartbeats 400000 in
theorem hasPrefix_any (b1 o1 n c b2 o2 m d : Nat) (xs ys : List Int) (w : World) (hx : xs.length = n) (hy : ys.length = m) (hnc : n ≤ c)
    (hc1 : ∀ i, i < n → w.cell? ⟨b1, o1 + i, none⟩ = some (.int .u8 (xs.getD i 0))) (hc2 : ∀ i, i < m → w.cell? ⟨b2, o2 + i, none⟩ = some (.int .u8 (ys.getD i 0)))
    (bx : ∀ x ∈ xs, 0 ≤ x ∧ x ≤ 255) (bY : ∀ x ∈ ys, 0 ≤ x ∧ x ≤ 255) :
    Calls Try.prog 46 #[.slice (some ⟨b1, o1, none⟩) n c, .slice (some ⟨b2, o2, none⟩) m d] w fun e w' => e = .returned (.bool (pfx xs ys)) ∧ w' = w := by
  have g2 := run_convert_bytes_arg (P := Try.prog) w 22 5 Try.underlying22 Try.underlying5 b2 o2 m d ys hy hc2 9 Try.underlying9
  by_cases hmn : m ≤ n
  · have g1 : (convert 22 9 (.slice (some ⟨b1, o1, none⟩) m c)).run Try.prog w = .ok (.string (strOfNums (xs.take m))) w :=
      run_convert_bytes_arg (P := Try.prog) w 22 5 Try.underlying22 Try.underlying5 b1 o1 m c (xs.take m) (by simp; omega) (fun i hi => by
        rw [hc1 i (by omega)]; simp [hi]) 9 Try.underlying9
    have hp : pfx xs ys = (xs.take m == ys) := by simp [pfx, hx, hy, hmn]
    have bt : ∀ x ∈ xs.take m, 0 ≤ x ∧ x ≤ 255 := fun x h => bx x (List.mem_of_mem_take h)
    rw [hp]
    clear hp
    go_enter Try.func46, Try.ntmps46
    go_wp2_with (go_at_call 52; refine (equal_any _ _ (xs.take m) ys _ bt bY g1 g2).mono ?_; rintro e w' ⟨rfl, rfl⟩)
    go_ret
    exact ⟨rfl, rfl⟩
  · have hp : pfx xs ys = false := by simp [pfx, hx, hy, hmn]
    rw [hp]
    clear hp
    have hmn' : ¬ (m : Int) ≤ (n : Int) := by omega
    go_enter Try.func46, Try.ntmps46
    go_wp2
    go_ret
    exact ⟨rfl, rfl⟩


/-- The bytes of a text as numbers. -/
def nums (p : ByteArray) : List Int := p.data.toList.map fun c => (c.toNat : Int)
/-- Does xs, from place fr up to place t, begin with p? -/
def bw (xs : List Int) (fr t : Nat) (p : List Int) : Bool := decide (fr + p.length ≤ t) && ((xs.drop fr).take p.length == p)

theorem nums_getD (p : ByteArray) (k : Nat) (h : k < p.size) : (nums p).getD k 0 = (p[k].toNat : Int) := by
  have h' : k < p.data.toList.length := h
  have e : (nums p)[k]? = some (p[k].toNat : Int) := by
    unfold nums
    rw [List.getElem?_map, List.getElem?_eq_getElem h']
    rfl
  rw [List.getD, e]; rfl
theorem bw_short (xs : List Int) (fr t : Nat) (p : List Int) (h : ¬ fr + p.length ≤ t) : bw xs fr t p = false := by simp [bw, h]
theorem cut_getD (xs : List Int) (fr m k : Nat) (hk : k < m) : ((xs.drop fr).take m).getD k 0 = xs.getD (fr + k) 0 := by
  simp [List.getD, hk]
theorem bw_diff (xs : List Int) (fr t : Nat) (p : List Int) (k : Nat) (hk : k < p.length) (h : xs.getD (fr + k) 0 ≠ p.getD k 0) : bw xs fr t p = false := by
  have : ((xs.drop fr).take p.length == p) = false := by
    rw [beq_eq_false_iff_ne]
    intro e
    apply h
    rw [← cut_getD xs fr p.length k hk, e]
  simp [bw, this]
theorem bw_same (xs : List Int) (fr t : Nat) (p : List Int) (h0 : fr + p.length ≤ t) (h : ∀ k, k < p.length → xs.getD (fr + k) 0 = p.getD k 0) (hx : fr + p.length ≤ xs.length) : bw xs fr t p = true := by
  have : (xs.drop fr).take p.length = p := by
    apply List.ext_getElem
    · simp; omega
    · intro k h1 h2
      have := h k h2
      rw [← cut_getD xs fr p.length k h2] at this
      simpa [List.getD, List.getElem?_eq_getElem h1, List.getElem?_eq_getElem h2] using this
  simp [bw, this, h0]

set_option maxHeartbeats 400000 in
theorem begins_any (b off n c : Nat) (xs : List Int) (f g : Int) (fr t : Nat) (p : ByteArray) (w : World) (hx : xs.length = n) (hn : n ≤ 1048576)
    (hc : ∀ i, i < n → w.cell? ⟨b, off + i, none⟩ = some (.int .u8 (xs.getD i 0))) (hf : f = (fr : Int)) (hg : g = (t : Int)) (ht : t ≤ n) (hfr : fr ≤ 1048576) (hp : p.size ≤ 1000) :
    Calls Try.prog 15 #[.slice (some ⟨b, off, none⟩) n c, .int .i64 f, .int .i64 g, .string p] w fun e w' => e = .returned (.bool (bw xs fr t (nums p))) ∧ ∃ q, w' = w.drewN q := by
  subst hf; subst hg
  have hpl : (nums p).length = p.size := by show (p.data.toList.map _).length = _; rw [List.length_map]; rfl
  by_cases hs : fr + p.size ≤ t
  · have hs' : ¬ ((t : Int) - fr < p.size) := by omega
    have ht' : ¬ ((n : Int) < t) := by omega
    have hf0 : ¬ ((fr : Int) < 0) := by omega
    have Hpl := (show Hid ((nums p).length = p.size) from hpl)
    clear hpl
    go_enter Try.func15, Try.ntmps15
    go_wp2
    go_loopw [9] (fun i wr => ∃ k q : Nat, k ≤ p.size ∧ i = .int .i64 k ∧ wr = w.drewN q ∧ Hid (∀ j, j < k → xs.getD (fr + j) 0 = (nums p).getD j 0)) (fun i _ => p.size - (intOf i).toNat)
    case atStart => exact ⟨0, 0, Nat.zero_le _, rfl, rfl, fun j h => absurd h (Nat.not_lt_zero _)⟩
    case round =>
      obtain ⟨k, q, hk, rfl, hw, hl⟩ := hrel
      subst hw
      by_cases hkp : k < p.size
      · obtain ⟨z, hz⟩ : ∃ z, z = xs.getD (fr + k) 0 := ⟨_, rfl⟩
        have hcell : w.cell? ⟨b, off + (fr + k), none⟩ = some (.int .u8 z) := by rw [hz]; exact hc (fr + k) (by omega)
        have HZ : Hid (z = xs.getD (fr + k) 0) := hz
        have hi1 : (fr : Int) + k < n := by omega
        have hi0 : (0 : Int) ≤ (fr : Int) + k := by omega
        have et : ((fr : Int) + k).toNat = fr + k := by omega
        have hwr : IntKind.i64.wrap ((fr : Int) + k) = (fr : Int) + k := wrap_in _ (by omega) (by omega)
        have hnk := nums_getD p k hkp
        have HN : Hid ((nums p).getD k 0 = (p[k].toNat : Int)) := hnk
        clear hc hz hnk
        by_cases hq : z = (p[k].toNat : Int)
        · have hq' : (z != (p[k].toNat : Int)) = false := by simp [hq]
          have HQ : Hid (z = (p[k].toNat : Int)) := hq
          clear hq
          go_wp2
          go_quiet (fail)
          go_wp2
          go_roundw
          case rel => exact ⟨k + 1, q + nq, by omega, by go_num, rfl, fun j hj => by
            rcases Nat.lt_or_eq_of_le (Nat.le_of_lt_succ hj) with h | h
            · exact hl.out j h
            · rw [h, ← HZ.out, HN.out]; exact HQ.out⟩
          case measure => simp [intOf]; omega
        · have hq' : (z != (p[k].toNat : Int)) = true := by simp [hq]
          have HQ : Hid (z ≠ (p[k].toNat : Int)) := hq
          clear hq
          go_wp2
          go_quiet (fail)
          go_wp2
          go_ret
          exact ⟨ret_bool (by rw [bw_diff xs fr t (nums p) k (by rw [Hpl.out]; exact hkp) (by rw [← HZ.out, HN.out]; exact HQ.out)]), q + nq, by first | rfl | rw [World.drewN_drewN]⟩
      · go_wp2
        go_ret
        exact ⟨ret_bool (by rw [bw_same xs fr t _ (by rw [Hpl.out]; exact hs) (fun j hj => hl.out j (by rw [Hpl.out] at hj; omega)) (by rw [Hpl.out]; omega)]), q, rfl⟩
  · rw [bw_short xs fr t _ (by rw [hpl]; exact hs)]
    have hs' : ((t : Int) - fr < p.size) := by omega
    have ht' : ¬ ((n : Int) < t) := by omega
    have hf0 : ¬ ((fr : Int) < 0) := by omega
    clear hpl
    go_enter Try.func15, Try.ntmps15
    go_wp2
    go_ret
    exact ⟨rfl, 0, rfl⟩


def header : List Int := [97, 100, 109, 105, 116, 45, 115, 99, 101, 110, 97, 114, 105, 111, 58, 32, 49, 10, 115, 116, 101, 112, 115, 58, 10]
def outcome : List Int := [32, 32, 35, 32, 111, 117, 116, 99, 111, 109, 101, 58, 32]


theorem num_cells (w : World) (l : List Int) (fz : Nat × Nat) (i : Nat) (hi : i < l.length) : (w.alloc (.cells (l.map (Value.int .u8)).toArray 5 fz)).cell? ⟨w.heap.size, 0 + i, none⟩ = some (.int .u8 (l.getD i 0)) := by
  have hb : (w.alloc (.cells (l.map (Value.int .u8)).toArray 5 fz)).heap[w.heap.size]? = some (.cells (l.map (Value.int .u8)).toArray 5 fz) := by
    show (w.heap.push _)[w.heap.size]? = _
    simp
  simp only [World.cell?, hb]
  simp [List.getD, hi]
theorem header_byte : ∀ x ∈ header, 0 ≤ x ∧ x ≤ 255 := by decide
theorem outcome_byte : ∀ x ∈ outcome, 0 ≤ x ∧ x ≤ 255 := by decide

set_option maxHeartbeats 400000 in
theorem wholeSteps_no (b off n c : Nat) (xs : List Int) (w : World) (hx : xs.length = n) (hnc : n ≤ c)
    (hc : ∀ i, i < n → w.cell? ⟨b, off + i, none⟩ = some (.int .u8 (xs.getD i 0))) (bx : ∀ x ∈ xs, 0 ≤ x ∧ x ≤ 255) (hp : pfx xs header = false) :
    Calls Try.prog 40 #[.slice (some ⟨b, off, none⟩) n c] w fun e w' => e = .returned (.int .i64 n) ∧ Below w.heap.size w w' := by
  have kc := fun (w : World) (C : Array Value) (n c : Nat) => Lib.run_convert_bytes_const (P := Try.prog) w 22 5 C n c Try.underlying22 Try.underlying5
  have hcalls := hasPrefix_any b off n c w.heap.size 0 25 25 xs header (w.alloc (.cells (header.map (Value.int .u8)).toArray 5 (25, 26))) hx rfl hnc (fun i hi => Lib.cell?_alloc_marked _ (hc i hi)) (fun i hi => num_cells w header (25, 26) i hi) bx header_byte
  rw [hp] at hcalls
  clear hp hc
  have H := hide hcalls
  clear hcalls
  go_enter Try.func40, Try.ntmps40
  go_wp2_with fail
  refine H.out.mono ?_
  rintro e w' ⟨rfl, rfl⟩
  go_wp2
  go_ret
  exact ⟨rfl, (Below.refl _ _).alloc (Nat.le_refl _) _⟩

end Go.Proofs.Qxb6602318a.Ws
