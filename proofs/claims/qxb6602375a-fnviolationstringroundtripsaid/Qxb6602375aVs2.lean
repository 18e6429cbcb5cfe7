import Derived.Test.Qxb6602375aVs
namespace Go.Proofs.Qxb6602375a.Vs
open Go.RowKit

theorem line_list (a b c : ByteArray) : (line a b c).data.toList = a.data.toList ++ 32 :: (b.data.toList ++ 32 :: c.data.toList) := by
  simp [line, ByteArray.data_append]
theorem line_size (a b c : ByteArray) : (line a b c).size = a.size + b.size + c.size + 2 := by
  have h := congrArg List.length (line_list a b c)
  simp only [List.length_append, List.length_cons, Array.length_toList] at h
  show (line a b c).data.size = a.data.size + b.data.size + c.data.size + 2
  omega
theorem ba_ext (s t : ByteArray) (h : s.data.toList = t.data.toList) : s = t := by
  cases s; cases t
  simp only [ByteArray.mk.injEq]
  exact Array.ext' h
theorem extract_list (s : ByteArray) (i j : Nat) : (s.extract i j).data.toList = (s.data.toList.drop i).take (j - i) := by
  rw [ByteArray.data_extract, Array.toList_extract, List.extract_eq_take_drop]
theorem cut_a (a b c : ByteArray) : (line a b c).extract 0 a.size = a := by
  apply ba_ext
  rw [extract_list, line_list, List.drop_zero, Nat.sub_zero]
  exact List.take_left' rfl
theorem cut_b (a b c : ByteArray) : (line a b c).extract (a.size + 1) (a.size + 1 + b.size) = b := by
  apply ba_ext
  rw [extract_list, line_list, Nat.add_sub_cancel_left]
  have h : a.data.toList ++ 32 :: (b.data.toList ++ 32 :: c.data.toList) = (a.data.toList ++ [32]) ++ (b.data.toList ++ 32 :: c.data.toList) := by simp
  rw [h, List.drop_left' (by rw [List.length_append]; rfl)]
  exact List.take_left' rfl
theorem cut_c (a b c : ByteArray) : (line a b c).extract (a.size + 1 + b.size + 1) (line a b c).size = c := by
  apply ba_ext
  rw [extract_list, line_list]
  have h : a.data.toList ++ 32 :: (b.data.toList ++ 32 :: c.data.toList) = (a.data.toList ++ 32 :: b.data.toList ++ [32]) ++ c.data.toList := by simp
  rw [h, List.drop_left' (by simp only [List.length_append, List.length_cons, List.length_nil]; show a.size + (b.size + 1) + (0 + 1) = _; omega)]
  apply List.take_of_length_le
  rw [line_size]
  show c.size ≤ _
  omega
theorem hasTo_all (s : ByteArray) (n : Nat) (h : hasTo s n = false) (k : Nat) (hk : k < n) : (s.data.toList.getD k 0 == 32) = false := by
  induction n with
  | zero => omega
  | succ n ih =>
    rw [hasTo, Bool.or_eq_false_iff] at h
    by_cases hkn : k < n
    · exact ih h.1 hkn
    · obtain rfl : k = n := by omega
      exact h.2
theorem line_a (a b c : ByteArray) (h : hasTo a a.size = false) (k : Nat) (hk : k < a.size) : ((line a b c).data.toList.getD k 0 == 32) = false := by
  have := hasTo_all a a.size h k hk
  rw [line_list, List.getD_eq_getElem?_getD, List.getElem?_append_left hk, ← List.getD_eq_getElem?_getD, this]
theorem line_a2 (a b c : ByteArray) : ((line a b c).data.toList.getD a.size 0 == 32) = true := by
  rw [line_list, List.getD_eq_getElem?_getD, List.getElem?_append_right (by show a.size ≤ _; exact Nat.le_refl _)]
  show (((32 :: (b.data.toList ++ 32 :: c.data.toList))[a.size - a.size]?.getD 0) == 32) = true
  rw [Nat.sub_self]; rfl
theorem line_b (a b c : ByteArray) (h : hasTo b b.size = false) (k : Nat) (hk : k < b.size) : ((line a b c).data.toList.getD (a.size + 1 + k) 0 == 32) = false := by
  have := hasTo_all b b.size h k hk
  rw [line_list, List.getD_eq_getElem?_getD, List.getElem?_append_right (by show a.size ≤ _; omega)]
  show (((32 :: (b.data.toList ++ 32 :: c.data.toList))[a.size + 1 + k - a.size]?.getD 0) == 32) = false
  rw [show a.size + 1 + k - a.size = k + 1 by omega, List.getElem?_cons_succ, List.getElem?_append_left hk, ← List.getD_eq_getElem?_getD, this]
theorem line_b2 (a b c : ByteArray) : ((line a b c).data.toList.getD (a.size + 1 + b.size) 0 == 32) = true := by
  rw [line_list, List.getD_eq_getElem?_getD, List.getElem?_append_right (by show a.size ≤ _; omega)]
  show (((32 :: (b.data.toList ++ 32 :: c.data.toList))[a.size + 1 + b.size - a.size]?.getD 0) == 32) = true
  rw [show a.size + 1 + b.size - a.size = b.size + 1 by omega, List.getElem?_cons_succ, List.getElem?_append_right (by show b.size ≤ _; exact Nat.le_refl _)]
  show (((32 :: c.data.toList)[b.size - b.size]?.getD 0) == 32) = true
  rw [Nat.sub_self]; rfl

/-- The report line, split. -/
theorem split_line (a b c : ByteArray) (w : World) (h1 : a.size ≤ 262144) (h2 : b.size ≤ 262144) (h3 : c.size ≤ 262144) (ha : hasTo a a.size = false) (hb : hasTo b b.size = false) :
    Calls Try.prog 27 #[.string (line a b c)] w fun e w' => e = .returned (.tuple #[.string a, .string b, .string c, .bool true]) ∧ ∃ q, w' = w.drewN q := by
  refine (split27 (line a b c) a.size b.size c.size w (line_size a b c) (by omega) (line_a a b c ha) (line_a2 a b c) (line_b a b c hb) (line_b2 a b c)).mono ?_
  rintro e w' ⟨he, hw⟩
  rw [cut_a, cut_b, cut_c] at he
  exact ⟨he, hw⟩
end Go.Proofs.Qxb6602375a.Vs
