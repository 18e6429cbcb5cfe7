import Derived.Test.Qxb6602318aPi3
namespace Go.Proofs.Qxb6602318a.Pi
open Go.RowKit
open Go.Proofs.Qxb6602318a.Sd (hide vi ret_bool wrap_in Fits rowIs_below)

def strs (ss : List ByteArray) : List Value := ss.map Value.string
theorem strs_one (ss : List ByteArray) : ∀ u ∈ strs ss, u.oneCell' = true := by
  intro u hu
  obtain ⟨_, _, rfl⟩ := List.mem_map.1 hu
  rfl
theorem strs_cell {w : World} {ad : Addr} {ss : List ByteArray} (h : ∀ j, j < ss.length → w.cell? (ad.add j) = some (.string (ss.getD j ByteArray.empty))) : ∀ j u, (strs ss)[j]? = some u → w.cell? (ad.add j) = some u := by
  intro j u hj
  have hjl : j < ss.length := by have := (List.getElem?_eq_some_iff.1 hj).1; simpa [strs] using this
  rw [h j hjl]
  simp [strs, List.getElem?_eq_getElem hjl] at hj
  subst hj
  simp [List.getD, List.getElem?_eq_getElem hjl]

theorem cell_lt' {w : World} {p : Addr} {v : Value} (h : w.cell? p = some v) : p.block < w.heap.size := by
  rcases Nat.lt_or_ge p.block w.heap.size with h' | h'
  · exact h'
  · simp [World.cell?, Array.getElem?_eq_none h'] at h
/-- A value that owns its row, answered. -/
def Owns (e : Ending) (w' : World) (base : Nat) (ss : List ByteArray) : Prop := ∃ v, e = .returned v ∧ w'.ownsRow base 9 1 v ss.length (strs ss)

set_option maxHeartbeats 400000 in
theorem new50 (a : Option Addr) (c : Nat) (ss : List ByteArray) (w : World) (m : Nat) (hm : ss.length = m) (hlen : m ≤ 65537) (hnil : a = none → m = 0 ∧ c = 0)
    (hc : ∀ ad, a = some ad → ∀ j, j < m → w.cell? (ad.add j) = some (.string (ss.getD j ByteArray.empty))) :
    Calls Try.prog 50 #[.slice a m c] w fun e w' => Owns e w' w.heap.size ss ∧ Below w.heap.size w w' := by
  obtain ⟨i0, hi, hz0, hz1, hz2⟩ := info_parts Sd.Try.info9
  have H := hide hc
  clear hc
  cases a with
  | none =>
    obtain ⟨rfl, rfl⟩ := hnil rfl
    obtain rfl : ss = [] := List.eq_nil_of_length_eq_zero hm
    go_enter Try.func50, Try.ntmps50
    go_wp2_with (first | (at_make; refine wpList_make_own _ rfl _ _ 27 rfl w.heap.size 9 i0 _ 1 Try.underlying27 hi hz0 hz1 _ _ _ 257 rfl rfl rfl (by rw [hz2]; omega) (by unfold maxLen; omega) (Nat.le_refl _) ?_))
    intro w1 hown hgrow
    go_wp2_with (first | (at_builtin; refine wpList_append_own_none rfl _ _ 27 rfl w.heap.size 9 i0 1 Try.underlying27 hi _ _ _ rfl hown rfl ?_))
    go_ret
    exact ⟨⟨_, rfl, hown⟩, (Below.refl _ _).grown hgrow (Nat.le_refl _) (fun k e => by cases e)⟩
  | some ad =>
    have hcc := H.out ad rfl
    go_enter Try.func50, Try.ntmps50
    go_wp2_with (first | (at_make; refine wpList_make_own _ rfl _ _ 27 rfl w.heap.size 9 i0 _ 1 Try.underlying27 hi hz0 hz1 _ _ _ 257 rfl rfl rfl (by rw [hz2]; omega) (by unfold maxLen; omega) (Nat.le_refl _) ?_))
    intro w1 hown hgrow
    have hb1 : Below w.heap.size w w1 := (Below.refl _ _).grown hgrow (Nat.le_refl _) (fun k e => by cases e)
    go_wp2_with (first | (at_builtin; refine wpList_append_own _ rfl _ _ 27 rfl w.heap.size 9 i0 _ 1 16 Try.underlying27 hi hz0 hz1 hz2 rfl (by decide) _ _ _ rfl hown ad m c (strs ss) rfl ?_ ?_ ?_ ?_ ?_ ?_ ?_))
    · simp [strs, hm]
    · refine strs_cell fun j hj => ?_
      have h0 := hcc j (by omega)
      exact (hb1.cell (p := ad.add j) (cell_lt' h0)).trans h0
    · exact strs_one ss
    · unfold maxLen; omega
    · omega
    · exact hb1.size
    · intro v' w2 hown2 hgrow2 _
      go_wp2
      go_ret
      refine ⟨⟨v', rfl, ?_⟩, hb1.grown hgrow2 hb1.size (fun k e => ?_)⟩
      · rw [hm]; simpa using hown2
      · simp [Value.ownBlock] at e; omega

theorem Owns.val {w' : World} {base : Nat} {ss : List ByteArray} {v : Value} (h : w'.ownsRow base 9 1 v ss.length (strs ss)) : RunVal w' v ss := by
  rcases h.2 with ⟨rfl, h0⟩ | ⟨g, cap, cur, rfl, hb, hg, h1, h2, h3, h4⟩
  · exact ⟨none, 0, by rw [h0], fun h => by omega⟩
  · refine ⟨some ⟨g, 0, none⟩, cap, rfl, fun _ => ⟨g, 0, rfl, fun j hj => ?_⟩⟩
    have hc : cur[j]? = some (.string (ss.getD j ByteArray.empty)) := by
      have e : (cur.toList.take (ss.length * 1))[j]? = (strs ss)[j]? := by rw [h4]
      rw [List.getElem?_take, if_pos (by omega)] at e
      have e2 : cur[j]? = (strs ss)[j]? := by simpa using e
      rw [e2]
      simp [strs, List.getElem?_eq_getElem hj]
    simp [World.cell?, hg, hc]

set_option maxHeartbeats 400000 in
/-- ownRun, where the run is to be copied. -/
theorem own51 (a : Option Addr) (c : Nat) (ss : List ByteArray) (w : World) (m : Nat) (hm : ss.length = m) (hlen : m ≤ 65537) (hc256 : c ≤ 256) (hnil : a = none → m = 0 ∧ c = 0)
    (hc : ∀ ad, a = some ad → ∀ j, j < m → w.cell? (ad.add j) = some (.string (ss.getD j ByteArray.empty))) :
    Calls Try.prog 51 #[.slice a m c] w fun e w' => Owns e w' w.heap.size ss ∧ Below w.heap.size w w' := by
  have H := hide (new50 a c ss w m hm hlen hnil hc)
  have hc' : ¬ (256 : Int) < (c : Int) := by omega
  clear hc hnil
  go_enter Try.func51, Try.ntmps51
  go_wp2_with fail
  refine H.out.mono ?_
  rintro e w' ⟨⟨v, rfl, hv⟩, hb⟩
  go_wp2
  go_ret
  exact ⟨⟨v, rfl, hv⟩, hb⟩
/-- ownRun, where the run is handed back. -/
theorem own51_big (a : Option Addr) (c m : Nat) (w : World) (hc256 : ¬ c ≤ 256) : Calls Try.prog 51 #[.slice a m c] w fun e w' => e = .returned (.slice a m c) ∧ w = w' := by
  have hc' : (256 : Int) < (c : Int) := by omega
  go_enter Try.func51, Try.ntmps51
  go_wp2
  go_ret
  exact ⟨rfl, rfl⟩
end Go.Proofs.Qxb6602318a.Pi
