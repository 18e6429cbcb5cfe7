import Derived.Test.Qxb6602318aPi7
namespace Go.Proofs.Qxb6602318a.Pi
open Go.RowKit
open Go.Proofs.Qxb6602318a.Sd (hide vi ret_bool wrap_in Fits rowIs_below)

/-! ### the small functions -/
theorem put31 (Sb G n i p : Nat) (rs : List (List ByteArray)) (V : Nat → Value) (id : ByteArray) (w : World) (hrs : rs.length = n) (hn : n ≤ 65536) (hi : i < n) (hp : p ≤ (rs.getD i []).length) (hl : (rs.getD i []).length ≤ 65536) (h : Set0 w Sb G n rs V) :
    Calls Try.prog 31 #[.pointer (some ⟨Sb, 0, none⟩), .int .i64 i, .int .i64 p, .string id] w fun e w' => e = .returned (.bool (decide (256 < (rs.getD i []).length + 1))) ∧ PutPost w w' Sb G (putIn rs i p id) := by
  have H := hide (putIn45 Sb G n i p rs V id w hrs hn hi hp hl h)
  clear h hp hl
  generalize putIn rs i p id = RS at *
  generalize decide (256 < (rs.getD i []).length + 1) = r at *
  go_enter Try.func31, Try.ntmps31
  go_wp2_with fail
  refine H.out.mono ?_
  rintro e w' ⟨rfl, h⟩
  go_wp2
  go_ret
  exact ⟨rfl, h⟩
theorem new30 (a : Option Addr) (n c : Nat) (w : World) : Calls Try.prog 30 #[.slice a n c] w fun e w' => e = .returned (.pointer (some ⟨w.heap.size, 0, none⟩)) ∧ w' = w.alloc (.cells #[.slice a n c] 56) := by
  go_enter Try.func30, Try.ntmps30
  go_wp2
  go_ret
  exact ⟨rfl, rfl⟩
theorem runs32 (Sb : Nat) (v : Value) (w : World) (a : Option Addr) (n c : Nat) (hv : v = .slice a n c) (h : w.cell? ⟨Sb, 0, none⟩ = some v) : Calls Try.prog 32 #[.pointer (some ⟨Sb, 0, none⟩)] w fun e w' => e = .returned (.slice a n c) ∧ w = w' := by
  rw [hv] at h
  clear hv
  go_enter Try.func32, Try.ntmps32
  go_wp2
  go_ret
  exact ⟨rfl, rfl⟩

/-- What putIn leaves of an empty set. -/
def PutOne (w w' : World) (Sb : Nat) (id : ByteArray) : Prop := KeepBut Sb w w' ∧ ∃ g cap a c, w'.cell? ⟨Sb, 0, none⟩ = some (.slice (some ⟨g, 0, none⟩) 1 cap) ∧ w'.cell? ⟨g, 0, none⟩ = some (.slice (some a) 1 c) ∧ w'.cell? a = some (.string id) ∧ a.spot = none

set_option maxRecDepth 100000 in
set_option maxHeartbeats 1000000 in
theorem putIn45_empty (Sb : Nat) (ao : Option Addr) (i p : Int) (id : ByteArray) (w : World) (hS : w.cell? ⟨Sb, 0, none⟩ = some (.slice ao 0 0)) (hf : w.frozen? ⟨Sb, 0, none⟩ = false) :
    Calls Try.prog 45 #[.pointer (some ⟨Sb, 0, none⟩), .int .i64 i, .int .i64 p, .string id] w fun e w' => e = .returned (.bool false) ∧ PutOne w w' Sb id := by
  have hSlt := cell_lt hS
  go_enter Try.func45, Try.ntmps45
  go_wp2_with fail
  have hb0 : Below w.heap.size w (w.alloc (.cells #[.string id] 9)) := (Below.refl _ _).alloc (Nat.le_refl _) _
  refine (new50 (some ⟨w.heap.size, 0, none⟩) 1 [id] (w.alloc (.cells #[.string id] 9)) 1 rfl (by omega) (fun h => by cases h) (fun ad had j hj => by
    obtain rfl := Option.some.inj had
    obtain rfl : j = 0 := by omega
    rw [Addr.add_lit, World.cell?_alloc_at _ _ _ _ rfl]; rfl)).mono ?_
  rintro e w1 ⟨⟨v1, rfl, o1⟩, hb1⟩
  have hb1' : Below w.heap.size w w1 := hb0.trans (hb1.mono (by simp))
  obtain ⟨g1, cap1, rfl, hg1, hg1'⟩ := o1.form (by simp)
  have hrv := Owns.val o1
  clear hb0 hb1
  have t1 : w1.cell? ⟨Sb, 0, none⟩ = _ := (hb1'.cell (p := ⟨Sb, 0, none⟩) hSlt).trans hS
  have t2 : w1.frozen? ⟨Sb, 0, none⟩ = false := (hb1'.frozen (p := ⟨Sb, 0, none⟩) hSlt).trans hf
  have Hrv := hide hrv
  clear hrv o1 hS hf
  go_wp2_with fail
  refine (insert49 Sb 0 ao [] (some ⟨g1, 0, none⟩) 1 cap1 w1 0 rfl (by omega) (by omega) t1 t2 (fun _ => rfl) (fun _ _ j u hj => by simp at hj) (fun v hv => by simp at hv)).mono ?_
  rintro e w2 ⟨rfl, hK, g, cap, hc, hgw, hcells⟩
  have hfin : PutOne w w2 Sb id := by
    refine ⟨(KeepBut.of_below hb1' Sb).trans hK, g, cap, ⟨g1, 0, none⟩, cap1, hc, hcells 0 _ rfl, ?_, rfl⟩
    obtain ⟨a, c, hv, hrow⟩ := Hrv.out
    obtain ⟨b, o, hb, hcs⟩ := hrow (by simp)
    injection hv with e1 _ _
    rw [hb] at e1
    injection e1 with e1
    injection e1 with e1 e2 _
    subst e1 e2
    have := hcs 0 (by simp)
    rw [World.cell?_of_block (w := w1) (a := ⟨g1, 0, none⟩) (hK.block g1 hg1' (by simp at hg1; omega))]
    exact this
  have HF := hide hfin
  clear hfin hK hc hcells
  go_wp2
  go_ret
  exact ⟨rfl, HF.out⟩
theorem put31_empty (Sb : Nat) (ao : Option Addr) (i p : Int) (id : ByteArray) (w : World) (hS : w.cell? ⟨Sb, 0, none⟩ = some (.slice ao 0 0)) (hf : w.frozen? ⟨Sb, 0, none⟩ = false) :
    Calls Try.prog 31 #[.pointer (some ⟨Sb, 0, none⟩), .int .i64 i, .int .i64 p, .string id] w fun e w' => e = .returned (.bool false) ∧ PutOne w w' Sb id := by
  have H := hide (putIn45_empty Sb ao i p id w hS hf)
  clear hS hf
  go_enter Try.func31, Try.ntmps31
  go_wp2_with fail
  refine H.out.mono ?_
  rintro e w' ⟨rfl, h⟩
  go_wp2
  go_ret
  exact ⟨rfl, h⟩

/-! ### plain laws -/
theorem sumTo_mono (rs : List (List ByteArray)) : ∀ k, k ≤ rs.length → sumTo rs k ≤ rs.flatten.length := by
  intro k hk
  rw [flat_length]
  have : ∀ d, k + d ≤ rs.length → sumTo rs k ≤ sumTo rs (k + d) := by
    intro d
    induction d with
    | zero => intro _; exact Nat.le_refl _
    | succ d ih =>
      intro h
      have := ih (by omega)
      rw [show k + (d + 1) = (k + d) + 1 by omega, sumTo_succ rs (k + d) (by omega)]
      omega
  have h2 := this (rs.length - k) (by omega)
  rwa [show k + (rs.length - k) = rs.length by omega] at h2
theorem take_flat (rs : List (List ByteArray)) (i : Nat) : (rs.take i).flatten.length = sumTo rs i := by
  unfold sumTo; rw [List.length_flatten]
theorem split_at (rs : List (List ByteArray)) (i : Nat) (hi : i < rs.length) : rs = rs.take i ++ rs.getD i [] :: rs.drop (i + 1) := by
  have h : rs.drop i = rs.getD i [] :: rs.drop (i + 1) := by
    rw [List.drop_eq_getElem_cons hi, List.getD, List.getElem?_eq_getElem hi]; rfl
  rw [← h, List.take_append_drop]

/-- The ids in order, id put in. -/
def want (rs : List (List ByteArray)) (i p : Nat) (id : ByteArray) : List ByteArray := rs.flatten.take (sumTo rs i + p) ++ id :: rs.flatten.drop (sumTo rs i + p)
theorem put_flat (rs : List (List ByteArray)) (i p : Nat) (id : ByteArray) (hi : i < rs.length) (hp : p ≤ (rs.getD i []).length) : (putIn rs i p id).flatten = want rs i p id := by
  have hf : rs.flatten = (rs.take i).flatten ++ (rs.getD i [] ++ (rs.drop (i + 1)).flatten) := by
    conv => lhs; rw [split_at rs i hi]
    rw [List.flatten_append, List.flatten_cons]
  have hl := take_flat rs i
  unfold want
  rw [hf, ← hl, List.take_append, List.drop_append]
  have e1 : (rs.take i).flatten.take ((rs.take i).flatten.length + p) = (rs.take i).flatten := List.take_of_length_le (by omega)
  have e2 : (rs.take i).flatten.drop ((rs.take i).flatten.length + p) = [] := List.drop_eq_nil_of_le (by omega)
  rw [e1, e2, show (rs.take i).flatten.length + p - (rs.take i).flatten.length = p by omega, List.take_append_of_le_length hp, List.drop_append_of_le_length hp]
  unfold putIn
  split
  · rw [List.flatten_append, List.flatten_cons]; simp [ins]
  · rw [List.flatten_append, List.flatten_cons, List.flatten_cons, ← List.append_assoc ((ins (rs.getD i []) p id).take _), List.take_append_drop]; simp [ins]
theorem want_length (rs : List (List ByteArray)) (i p : Nat) (id : ByteArray) (hi : i < rs.length) (hp : p ≤ (rs.getD i []).length) : (want rs i p id).length = rs.flatten.length + 1 ∧ sumTo rs i + p ≤ rs.flatten.length := by
  have h1 := sumTo_mono rs (i + 1) (by omega)
  rw [sumTo_succ rs i hi] at h1
  refine ⟨?_, by omega⟩
  simp only [want, List.length_append, List.length_take, List.length_cons, List.length_drop]
  omega
theorem want_getD (rs : List (List ByteArray)) (i p : Nat) (id : ByteArray) (q k : Nat) (hq : q = sumTo rs i + p) (hq2 : q ≤ rs.flatten.length) : (want rs i p id).getD k ByteArray.empty = if k < q then rs.flatten.getD k ByteArray.empty else if k = q then id else rs.flatten.getD (k - 1) ByteArray.empty := by
  unfold want
  rw [← hq]
  have hl : (rs.flatten.take q).length = q := by rw [List.length_take]; omega
  unfold List.getD
  rcases Nat.lt_trichotomy k q with h | h | h
  · rw [List.getElem?_append_left (by omega), List.getElem?_take, if_pos h, if_pos h]
  · subst h; rw [List.getElem?_append_right (by omega), hl]; simp
  · rw [List.getElem?_append_right (by omega), hl, if_neg (by omega), if_neg (by omega), show k - q = (k - q - 1) + 1 by omega, List.getElem?_cons_succ, List.getElem?_drop, show q + (k - q - 1) = k - 1 by omega]

/-- The lengths that the law asks for, off the first k runs. -/
def wl (rs : List (List ByteArray)) (i g : Nat) : Nat → List Nat
  | 0 => []
  | k + 1 => wl rs i g k ++ if k ≠ i then [(rs.getD k []).length] else if 256 < g then [g / 2, g - g / 2] else [g]
theorem wl_length (rs : List (List ByteArray)) (i g : Nat) : ∀ k, (wl rs i g k).length = if k ≤ i then k else if 256 < g then k + 1 else k
  | 0 => by simp [wl]
  | k + 1 => by
    rw [wl, List.length_append, wl_length rs i g k]
    by_cases e : k = i
    · subst e
      by_cases h : 256 < g <;> simp [h]
    · by_cases h1 : k < i
      · simp [e, show k ≤ i by omega, show k + 1 ≤ i by omega]
      · by_cases h : 256 < g <;> simp [e, h, show ¬ k ≤ i by omega, show ¬ k + 1 ≤ i by omega]
theorem wl_low (rs : List (List ByteArray)) (i g : Nat) : ∀ k, k ≤ i → k ≤ rs.length → wl rs i g k = (rs.take k).map List.length
  | 0, _, _ => by simp [wl]
  | k + 1, h, h2 => by
    rw [wl, wl_low rs i g k (by omega) (by omega), if_pos (show k ≠ i by omega), List.take_succ_eq_append_getElem (by omega), List.map_append, List.getD, List.getElem?_eq_getElem (by omega)]
    rfl
theorem wl_high (rs : List (List ByteArray)) (i g : Nat) (hi : i < rs.length) : ∀ d, i + 1 + d ≤ rs.length → wl rs i g (i + 1 + d) = (rs.take i).map List.length ++ ((if 256 < g then [g / 2, g - g / 2] else [g]) ++ ((rs.drop (i + 1)).take d).map List.length)
  | 0, _ => by
    rw [Nat.add_zero, wl, wl_low rs i g i (Nat.le_refl _) (by omega), if_neg (by simp)]
    simp
  | d + 1, h => by
    rw [show i + 1 + (d + 1) = (i + 1 + d) + 1 by omega, wl, wl_high rs i g hi d (by omega), if_pos (show i + 1 + d ≠ i by omega)]
    have e : (rs.drop (i + 1)).take (d + 1) = (rs.drop (i + 1)).take d ++ [rs.getD (i + 1 + d) []] := by
      rw [List.take_succ_eq_append_getElem (by simp; omega), List.getElem_drop, List.getD, List.getElem?_eq_getElem (by omega)]
      rfl
    rw [e]
    simp
theorem put_lens (rs : List (List ByteArray)) (i p : Nat) (id : ByteArray) (hi : i < rs.length) (hp : p ≤ (rs.getD i []).length) : (putIn rs i p id).map List.length = wl rs i ((rs.getD i []).length + 1) rs.length := by
  have h := wl_high rs i ((rs.getD i []).length + 1) hi (rs.length - (i + 1)) (by omega)
  rw [show i + 1 + (rs.length - (i + 1)) = rs.length by omega] at h
  have e : (rs.drop (i + 1)).take (rs.length - (i + 1)) = rs.drop (i + 1) := List.take_of_length_le (by simp)
  rw [h, e]
  unfold putIn
  rw [ins_length _ _ _ hp]
  by_cases h256 : (rs.getD i []).length + 1 ≤ 256
  · rw [if_pos h256, if_neg (by omega), List.map_append, List.map_cons, ins_length _ _ _ hp]
    rfl
  · rw [if_neg h256, if_pos (by omega), List.map_append, List.map_cons, List.map_cons, List.length_take, List.length_drop, ins_length _ _ _ hp]
    have : min (((rs.getD i []).length + 1) / 2) ((rs.getD i []).length + 1) = ((rs.getD i []).length + 1) / 2 := by omega
    rw [this]
    rfl

end Go.Proofs.Qxb6602318a.Pi
