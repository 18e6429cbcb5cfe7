import Derived.Test.Qxb6602318aPi
namespace Go.Proofs.Qxb6602318a.Pi
open Go.RowKit
open Go.Proofs.Qxb6602318a.Sd (hide vi ret_bool wrap_in Fits rowIs_below)

theorem Try.info27 : (Try.prog.info? 27).map (fun i => (i.zero, i.size, i.bytes)) = some (some (.slice none 0 0), 1, 24) := by kernel_rfl

/-- The first j ids of a run, then nothing. -/
def strF (ss : List ByteArray) (j : Nat) (q : Nat) : Value := if q < j then .string (ss.getD q ByteArray.empty) else .string ByteArray.empty
theorem strF_full {ss : List ByteArray} {q : Nat} (h : q < ss.length) : strF ss ss.length q = .string (ss.getD q ByteArray.empty) := if_pos h

/-- A run that the call itself has made: its capacity is its length. -/
def RunIn (w : World) (lo : Nat) (v : Value) (ss : List ByteArray) : Prop :=
  ∃ a, v = .slice a ss.length ss.length ∧ (0 < ss.length → ∃ b, lo < b ∧ a = some ⟨b, 0, none⟩ ∧ w.rowIs b 9 ss.length (fun j => .string (ss.getD j ByteArray.empty)))
theorem RunIn.below {w w' : World} {lo B : Nat} {v : Value} {ss : List ByteArray} (h : RunIn w lo v ss) (hb : Below B w w') (hB : w.heap.size ≤ B) : RunIn w' lo v ss := by
  obtain ⟨a, rfl, h⟩ := h
  refine ⟨a, rfl, fun h0 => ?_⟩
  obtain ⟨b, h1, h2, h3⟩ := h h0
  exact ⟨b, h1, h2, rowIs_below h3 hb (by have := h3.lt; omega)⟩
theorem RunIn.setOther {w : World} {lo : Nat} {v : Value} {ss : List ByteArray} (h : RunIn w lo v ss) {a : Addr} (ha : a.block ≤ lo) (x : Value) : RunIn (w.setCell a x) lo v ss := by
  obtain ⟨a', rfl, h⟩ := h
  refine ⟨a', rfl, fun h0 => ?_⟩
  obtain ⟨b, h1, h2, h3⟩ := h h0
  exact ⟨b, h1, h2, h3.setOther (by omega) x⟩

/-- The first k runs are copied. -/
structure CopyTo (w wr : World) (k n : Nat) (rs : List (List ByteArray)) (V : Nat → Value) : Prop where
  bel : Below w.heap.size w wr
  outer : wr.rowIs w.heap.size 27 n V
  rows : ∀ p, p < k → RunIn wr w.heap.size (V p) (rs.getD p [])
  later : ∀ p, k ≤ p → V p = .slice none 0 0
/-- .. of some values. -/
def CopyTo' (w wr : World) (k n : Nat) (rs : List (List ByteArray)) : Prop := ∃ V, CopyTo w wr k n rs V

theorem CopyTo'.nil {w wr : World} {k n : Nat} {rs : List (List ByteArray)} (h : CopyTo' w wr k n rs) (hl : (rs.getD k []).length = 0) : CopyTo' w wr (k + 1) n rs := by
  obtain ⟨V, h⟩ := h
  refine ⟨V, h.bel, h.outer, fun p hp => ?_, fun p hp => h.later p (by omega)⟩
  by_cases e : p = k
  · subst e
    rw [h.later p (Nat.le_refl _)]
    exact ⟨none, by rw [hl], fun h0 => by omega⟩
  · exact h.rows p (by omega)
theorem CopyTo'.step {w wr w1 : World} {k n : Nat} {rs : List (List ByteArray)} (h : CopyTo' w wr k n rs) (hb : Below wr.heap.size wr w1)
    (hrow : w1.rowIs wr.heap.size 9 (rs.getD k []).length (strF (rs.getD k []) (rs.getD k []).length)) :
    CopyTo' w (w1.setCell ⟨w.heap.size, k, none⟩ (.slice (some ⟨wr.heap.size, 0, none⟩) (rs.getD k []).length (rs.getD k []).length)) (k + 1) n rs := by
  obtain ⟨V, h⟩ := h
  have hsz := h.bel.size
  have hlt := h.outer.lt
  refine ⟨fun p => if p = k then .slice (some ⟨wr.heap.size, 0, none⟩) (rs.getD k []).length (rs.getD k []).length else V p, ?_, ?_, fun p hp => ?_, fun p hp => ?_⟩
  · exact (h.bel.trans (hb.mono hsz)).setCell (Nat.le_refl _) _
  · exact (rowIs_below h.outer hb hlt).set k _
  · by_cases e : p = k
    · subst e
      simp only [if_true]
      refine RunIn.setOther ?_ (Nat.le_refl _) _
      exact ⟨_, rfl, fun _ => ⟨wr.heap.size, hlt, rfl, hrow.congr fun j hj => strF_full hj⟩⟩
    · simp only [e, if_false]
      exact ((h.rows p (by omega)).below hb (Nat.le_refl _)).setOther (Nat.le_refl _) _
  · simp only [show p ≠ k by omega, if_false]
    exact h.later p (by omega)

set_option maxRecDepth 100000 in
set_option maxHeartbeats 2000000 in
theorem copy29 (b off c : Nat) (rs : List (List ByteArray)) (A : Nat → Option Addr) (C : Nat → Nat) (w : World) (n : Nat) (hrs : rs.length = n) (hn : n ≤ 65536) (hls : ∀ k, k < n → (rs.getD k []).length ≤ 65536) (h : ArgRuns w b off rs A C) (hb : b < w.heap.size) :
    Calls Try.prog 29 #[.slice (some ⟨b, off, none⟩) n c] w fun e w' => e = .returned (.slice (some ⟨w.heap.size, 0, none⟩) n n) ∧ CopyTo' w w' n n rs := by
  have mk1 := run_make_row' (P := Try.prog) 36 27 (.slice none 0 0) 24 Try.underlying36 Try.info27 rfl .i64 .i64 n (by omega) (by omega)
  have hq1 := fun (w : World) (a : Option Addr) (n c : Nat) => Lib.run_eql_slice_nil (P := Try.prog) w 36 27 a n c 0 0 Try.underlying36
  have hq2 := fun (w : World) (a : Option Addr) (n c : Nat) => Lib.run_eql_slice_nil (P := Try.prog) w 27 9 a n c 0 0 Try.underlying27
  have H := hide h
  have HL := hide hls
  clear h hls
  go_enter Try.func29, Try.ntmps29
  go_wp2
  go_loopw [4, 5, 6] (fun t _ _ wr => ∃ (k : Nat), k ≤ n ∧ t = .int .i64 k ∧ CopyTo' w wr k n rs) (fun t _ _ _ => n - (intOf t).toNat)
  case atStart =>
    exact ⟨0, Nat.zero_le _, rfl, fun _ => .slice none 0 0, (Below.refl _ _).alloc (Nat.le_refl _) _, World.rowIs_made _ _ _ _, fun p hp => absurd hp (Nat.not_lt_zero _), fun _ _ => rfl⟩
  case round =>
    obtain ⟨wo, rfl⟩ : ∃ wo, wo = wr := ⟨wr, rfl⟩
    obtain ⟨k, hk, rfl, hT⟩ := hrel
    have hbel : Below w.heap.size w wo := by obtain ⟨V, h⟩ := hT; exact h.bel
    have hout : ∃ V, wo.rowIs w.heap.size 27 n V := by obtain ⟨V, h⟩ := hT; exact ⟨V, h.outer⟩
    by_cases hkn : k < n
    · have hcell : wo.cell? ⟨b, off + k, none⟩ = _ := (hbel.cell (p := ⟨b, off + k, none⟩) hb).trans (H.out.cell k (by omega))
      have hll := HL.out k hkn
      have hrow := H.out.row k (by omega)
      obtain ⟨ss, hss⟩ : ∃ ss, ss = rs.getD k [] := ⟨_, rfl⟩
      rw [← hss] at hcell hll hrow
      have Hss := hide hss
      clear hss
      cases hAk : A k with
      | none =>
        rw [hAk] at hcell
        have hl0 : ss.length = 0 := by
          rcases Nat.lt_or_ge 0 ss.length with h' | h'
          · obtain ⟨_, _, e, _⟩ := hrow h'
            rw [hAk] at e; cases e
          · omega
        have hT' := hide (hT.nil (by rw [← Hss.out]; exact hl0))
        rw [hl0] at hcell
        clear hrow hl0 hAk
        go_wp2
        go_roundw
        case rel => exact ⟨k + 1, by omega, vi (by omega), hT'.out⟩
        case measure => simp [intOf]; omega
      | some ad =>
        rw [hAk] at hcell
        obtain ⟨l, hl⟩ : ∃ l, l = ss.length := ⟨_, rfl⟩
        rw [← hl] at hcell hll hrow
        have mk2 := run_make_row' (P := Try.prog) 27 9 (.string ByteArray.empty) 16 Try.underlying27 Sd.Try.info9 rfl .i64 .i64 l (by omega) (by omega)
        have hsz := hbel.size
        have hcN : ∀ o, (wo.alloc o).cell? ⟨b, off + k, none⟩ = some (.slice (some ad) l (C k)) := fun o => Sd.cell_al o hcell
        have Hrow := hide hrow
        have Hl := hide hl
        clear hrow hl
        go_wp2
        go_loopw [6] (fun t wr => ∃ (j : Nat), j ≤ l ∧ t = .int .i64 j ∧ Below wo.heap.size wo wr ∧ wr.rowIs wo.heap.size 9 l (strF ss j)) (fun t _ => l - (intOf t).toNat)
        case atStart =>
          refine ⟨0, Nat.zero_le _, rfl, (Below.refl _ _).alloc (Nat.le_refl _) _, (World.rowIs_made _ _ _ _).congr fun q _ => ?_⟩
          simp [strF]
        case round =>
          obtain ⟨j, hj, rfl, hBi, hRi⟩ := hrel
          clear hcN
          by_cases hjl : j < l
          · obtain ⟨b', o', hA', hrc⟩ := Hrow.out (by omega)
            rw [hAk] at hA'
            obtain rfl : ad = ⟨b', o', none⟩ := Option.some.inj hA'
            have hsrc := hrc j hjl
            have hb' : b' < w.heap.size := by
              rcases Nat.lt_or_ge b' w.heap.size with h' | h'
              · exact h'
              · simp [World.cell?, Array.getElem?_eq_none h'] at hsrc
            have s1 : wr.cell? ⟨b, off + k, none⟩ = _ := (hBi.cell (p := ⟨b, off + k, none⟩) (by show b < wo.heap.size; omega)).trans hcell
            have s2 : wr.cell? ⟨b', o' + j, none⟩ = _ := (hBi.cell (p := ⟨b', o' + j, none⟩) (by show b' < wo.heap.size; omega)).trans ((hbel.cell (p := ⟨b', o' + j, none⟩) hb').trans hsrc)
            have s3 := hRi.cell hjl
            have s4 := hRi.frozen
            obtain ⟨sj, hsj⟩ : ∃ s, s = ss.getD j ByteArray.empty := ⟨_, rfl⟩
            rw [← hsj] at s2
            generalize strF ss j j = v3 at s3
            have Hsj := hide hsj
            clear hsj hsrc hrc hA' hcell
            go_wp2
            go_roundw
            case measure => simp [intOf]; omega
            case rel =>
              refine ⟨j + 1, by omega, vi (by omega), hBi.setCell (Nat.le_refl _) _, (hRi.set j _).congr fun q hq => ?_⟩
              unfold strF
              by_cases e : q = j
              · subst e; simp [Hsj.out]
              · simp only [e, if_false]
                by_cases e2 : q < j
                · rw [if_pos e2, if_pos (by omega)]
                · rw [if_neg e2, if_neg (by omega)]
          · obtain rfl : j = l := by omega
            have hstep : CopyTo' w (wr.setCell ⟨w.heap.size, k, none⟩ (.slice (some ⟨wo.heap.size, 0, none⟩) j j)) (k + 1) n rs := by
              have := hT.step hBi (by rw [← Hss.out, ← Hl.out]; exact hRi)
              rw [← Hss.out, ← Hl.out] at this
              exact this
            have HST := hide hstep
            obtain ⟨V, hV⟩ := hout
            have t1 := (rowIs_below hV hBi hV.lt).cell hkn
            have t2 := (rowIs_below hV hBi hV.lt).frozen
            generalize V k = vk at t1
            clear hstep hcell
            go_wp2
            go_roundw
            case rel => exact ⟨k + 1, by omega, vi (by omega), HST.out⟩
            case measure => simp [intOf]; omega
    · obtain rfl : k = n := by omega
      go_wp2
      go_ret
      exact ⟨rfl, hT⟩
end Go.Proofs.Qxb6602318a.Pi
