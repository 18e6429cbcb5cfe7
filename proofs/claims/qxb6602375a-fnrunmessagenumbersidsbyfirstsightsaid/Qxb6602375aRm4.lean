import Derived.Test.Qxb6602375aRm3
namespace Go.Proofs.Qxb6602375a.Rm
open Go.RowKit Go.Maps
open Go.Proofs.Qxb6602375a.Hc (hide vi ret_bool wrap_in SomeBool)

/-- A slice of strings that came in, as the walk reads it. -/
structure ArgIds (w : World) (ao : Option Addr) (n : Nat) (ss : List ByteArray) : Prop where
  len : ss.length = n
  cell : ∀ i, i < n → ∃ b off, ao = some ⟨b, off, none⟩ ∧ w.cell? ⟨b, off + i, none⟩ = some (.string (ss.getD i ByteArray.empty))
  size : ∀ i, i < n → (ss.getD i ByteArray.empty).size ≤ maxLen
  n : n ≤ maxLen
theorem ArgIds.below {w w' : World} {ao : Option Addr} {n : Nat} {ss : List ByteArray} (h : ArgIds w ao n ss) (hb : Below w.heap.size w w') : ArgIds w' ao n ss := by
  refine ⟨h.len, fun i hi => ?_, h.size, h.n⟩
  obtain ⟨b, off, h1, h2⟩ := h.cell i hi
  exact ⟨b, off, h1, (hb.cell (p := ⟨b, off + i, none⟩) (World.block_lt_of_cell? w _ h2)).trans h2⟩

set_option maxHeartbeats 1000000 in
theorem bytes16' (ao : Option Addr) (c n : Nat) (ss : List ByteArray) (w : World) (h : ArgIds w ao n ss) :
    Calls Try.prog 16 #[.slice ao n c] w fun e w' => SomeBool e ∧ w = w' := by
  have hn := h.n
  unfold maxLen at hn
  have H := hide h
  clear h
  by_cases hb : n ≤ 1048576
  · have hb' : ¬ (1048576 : Int) < (n : Int) := by omega
    have hd : decide ((1048576 : Int) < (n : Int)) = false := decide_eq_false hb'
    go_enter Try.func16, Try.ntmps16
    go_wp2
    go_loop [3, 4] (fun t k => ∃ (tt : Nat) (kk : Nat), tt ≤ 1048576 ∧ kk ≤ n ∧ t = .int .i64 tt ∧ k = .int .i64 kk) (fun _ k => n - (intOf k).toNat)
    case atStart => exact ⟨n, 0, hb, Nat.zero_le _, rfl, rfl⟩
    case round =>
      obtain ⟨tt, kk, ht, hk, rfl, rfl⟩ := hrel
      clear hd hb'
      by_cases hlt : kk < n
      · obtain ⟨b, off, rfl, hcell⟩ := H.out.cell kk hlt
        have hsz := H.out.size kk hlt
        generalize ss.getD kk ByteArray.empty = s at hcell hsz
        unfold maxLen at hsz
        by_cases h1 : s.size ≤ 1048576
        · have h1' : ¬ (1048576 : Int) < (s.size : Int) := by omega
          by_cases h2 : tt + s.size ≤ 1048576
          · have h2' : ¬ (1048576 : Int) < (tt : Int) + (s.size : Int) := by omega
            go_wp2
            go_round
            case rel => exact ⟨tt + s.size, kk + 1, h2, by omega, vi (by omega), vi (by omega)⟩
            case measure => simp [intOf]; omega
          · have h2' : (1048576 : Int) < (tt : Int) + (s.size : Int) := by omega
            go_wp2
            go_ret
            exact ⟨⟨_, rfl⟩, rfl⟩
        · have h1' : (1048576 : Int) < (s.size : Int) := by omega
          go_wp2
          go_ret
          exact ⟨⟨_, rfl⟩, rfl⟩
      · go_wp2
        go_ret
        exact ⟨⟨_, rfl⟩, rfl⟩
  · have hb' : (1048576 : Int) < (n : Int) := by omega
    go_enter Try.func16, Try.ntmps16
    go_wp2
    go_ret
    exact ⟨⟨_, rfl⟩, rfl⟩

theorem drewN_below {B : Nat} {w w' : World} (h : Below B w w') (q : Nat) : Below B w (w'.drewN q) := ⟨h.os, h.tape, h.output, h.size, h.block⟩
theorem RSt.drewN {B : Nat} {wr : World} {S : List ByteArray} {vm : Value} {D : DataW Unit} (h : RSt B wr S vm D) (q : Nat) : RSt B (wr.drewN q) S vm D := ⟨h.c0, h.f0, h.c1, h.c2, h.c3, h.c4, h.c5, h.own, h.map, h.isMap, h.map2⟩

/-- Where the law stands: the Run in memory, the ids seen. -/
structure LSt (w wr : World) (S : List ByteArray) (vm : Value) (D : DataW Unit) (v6 : Value) : Prop where
  bel : Below w.heap.size w wr
  run : RSt w.heap.size wr S vm D
  seen : wr.ownsRow (w.heap.size + 3) 9 1 v6 S.length (strs S)
  apart : ∀ g, v6.ownBlock = some g → vm.ownBlock ≠ some g
  small : ∀ s ∈ S, s.size ≤ maxLen
theorem LSt.drewN {w wr : World} {S : List ByteArray} {vm : Value} {D : DataW Unit} {v6 : Value} (h : LSt w wr S vm D v6) (q : Nat) : LSt w (wr.drewN q) S vm D v6 := ⟨drewN_below h.bel q, h.run.drewN q, h.seen, h.apart, h.small⟩
theorem strs_get (S : List ByteArray) (j : Nat) (hj : j < S.length) : (strs S)[j]? = some (.string (S.getD j ByteArray.empty)) := by
  unfold strs
  rw [List.getElem?_map, List.getD_eq_getElem?_getD, List.getElem?_eq_getElem hj]; rfl
theorem LSt.more {w wr w' : World} {S : List ByteArray} {vm : Value} {D : DataW Unit} {v6 : Value} (h : LSt w wr S vm D v6) (hb : Below wr.heap.size wr w') : LSt w w' S vm D v6 := by
  have hg : wr.grownBy w' none := ⟨hb.os, hb.tape, hb.output, hb.size, fun k hk _ => hb.block k hk⟩
  exact ⟨h.bel.trans (hb.mono h.bel.size), h.run.below hb, h.seen.kept hg (by cases hv : v6.ownBlock <;> simp), h.apart, h.small⟩
/-- The seen ids, as the walk reads them. -/
theorem LSt.cell {w wr : World} {S : List ByteArray} {vm : Value} {D : DataW Unit} {v6 : Value} (h : LSt w wr S vm D v6) {j : Nat} (hj : j < S.length) : ∃ g cap, v6 = .slice (some ⟨g, 0, none⟩) S.length cap ∧ wr.cell? ⟨g, j, none⟩ = some (.string (S.getD j ByteArray.empty)) := by
  obtain ⟨g, cap, rfl, _, hg⟩ := h.seen.form (by omega)
  have := h.seen.cells (g := g) rfl j _ (strs_get S j hj)
  rw [Addr.add_lit, Nat.zero_add] at this
  exact ⟨g, cap, rfl, this⟩

theorem RSt.grown {B : Nat} {wr w2 : World} {S : List ByteArray} {vm : Value} {D : DataW Unit} (h : RSt B wr S vm D) {row : Option Nat} (hg : wr.grownBy w2 row) (hr : ∀ g, row = some g → B + 3 ≤ g ∧ vm.ownBlock ≠ some g) : RSt B w2 S vm D := by
  have hsz := h.size
  have hb : w2.heap[B + 2]? = wr.heap[B + 2]? := hg.block (B + 2) (by omega) (fun e => by have := (hr _ e.symm).1; omega)
  have hc : ∀ j, w2.cell? ⟨B + 2, j, none⟩ = wr.cell? ⟨B + 2, j, none⟩ := fun j => World.cell?_of_block (w := wr) (a := ⟨B + 2, j, none⟩) hb
  refine ⟨(hc 0).trans h.c0, (World.frozen?_of_block (w := wr) (a := ⟨B + 2, 0, none⟩) hb).trans h.f0, (hc 1).trans h.c1, (hc 2).trans h.c2, (hc 3).trans h.c3, (hc 4).trans h.c4, (hc 5).trans h.c5, ?_, h.map.kept hg (fun e => by have := (hr _ e.symm).1; omega), h.isMap, h.map2.kept hg (fun e => by have := (hr _ e.symm).1; omega)⟩
  refine h.own.kept hg ?_
  cases hv : vm.ownBlock with
  | none => exact .inl rfl
  | some g =>
    right
    intro e
    exact (hr g e.symm).2 hv

theorem LSt.step {w wr w2 : World} {S : List ByteArray} {vm : Value} {D : DataW Unit} {v6 : Value} {s : ByteArray} {g cap : Nat} {o : Obj} (h : LSt w wr S vm D v6) (hs : s.size ≤ maxLen)
    (hown : w2.ownsRow (w.heap.size + 3) 9 1 (.slice (some ⟨g, 0, none⟩) (S.length + 1) cap) (S.length + 1) (strs S ++ [.string s]))
    (hg : (wr.alloc o).grownBy w2 v6.ownBlock) (hat : v6.ownBlock = some g ∨ g = wr.heap.size + 1) :
    RSt w.heap.size w2 S vm D ∧ ∀ w3, Laid w.heap.size S vm s w2 w3 → ∃ vm' D', LSt w w3 (S ++ [s]) vm' D' (.slice (some ⟨g, 0, none⟩) (S.length + 1) cap) := by
  have h6 : ∀ k, v6.ownBlock = some k → w.heap.size + 3 ≤ k ∧ k < wr.heap.size := fun k hk => h.seen.lt k hk
  have hm : ∀ k, vm.ownBlock = some k → w.heap.size + 3 ≤ k ∧ k < wr.heap.size := fun k hk => h.run.own.lt k hk
  have hR1 : RSt w.heap.size (wr.alloc o) S vm D := h.run.grown (World.grownBy_alloc wr o none) (fun g hg => by cases hg)
  have hR : RSt w.heap.size w2 S vm D := hR1.grown hg (fun k hk => ⟨(h6 k hk).1, h.apart k hk⟩)
  have hgs := hg.size
  have hasz : (wr.alloc o).heap.size = wr.heap.size + 1 := by simp
  have hglt := hown.lt g rfl
  have hbs := h.bel.size
  have hvg : vm.ownBlock ≠ some g := by
    rcases hat with e | e
    · exact h.apart g e
    · intro e'; have := (hm g e').2; omega
  refine ⟨hR, fun w3 ⟨vm', D', hR3, hT⟩ => ⟨vm', D', ?_, hR3, ?_, ?_, ?_⟩⟩
  · have b2 : Below w.heap.size w w2 := (h.bel.alloc hbs o).grown hg (by omega) (fun k hk => by have := (h6 k hk).1; omega)
    exact b2.trans ⟨hT.os, hT.tape, hT.output, hT.size, fun k hk => hT.block k (by have := b2.size; omega) (by omega) (by omega) (fun e => by have := (hm k e.symm).1; omega)⟩
  · rw [strs_append, List.length_append]
    have hb : w3.heap[g]? = w2.heap[g]? := hT.block g hglt.2 (by omega) (by omega) (fun e => hvg e.symm)
    refine ⟨hown.1, ?_⟩
    rcases hown.2 with ⟨e, _⟩ | ⟨g', cap', cur, e, r1, r2, r3⟩
    · cases e
    · simp only [Value.slice.injEq, Option.some.injEq, Addr.mk.injEq] at e
      obtain ⟨⟨rfl, _⟩, _, rfl⟩ := e
      exact .inr ⟨g, cap, cur, rfl, r1, by rw [hb]; exact r2, r3⟩
  · intro k hk e
    have ek : g = k := by simpa [Value.ownBlock] using hk
    subst ek
    rcases hT.lies g e with e' | e'
    · exact hvg e'
    · omega
  · intro t ht
    rcases List.mem_append.1 ht with ht | ht
    · exact h.small t ht
    · rw [List.mem_singleton] at ht; rw [ht]; exact hs

theorem not_mem_of {S : List ByteArray} {s : ByteArray} (h : ∀ p, p < S.length → S.getD p ByteArray.empty ≠ s) : s ∉ S := fun hm => by
  obtain ⟨j, hj, e⟩ := List.getElem_of_mem hm
  apply h j hj
  rw [List.getD_eq_getElem?_getD, List.getElem?_eq_getElem hj]; exact e
theorem str_ne {x s : ByteArray} (h : x ≠ s) : (x.toList == s.toList) = false := by
  rw [beq_eq_false_iff_ne, ByteArray.toList_eq, ByteArray.toList_eq]
  exact fun e => h (WideShapes.bytes_inj e)

set_option maxRecDepth 100000 in
set_option maxHeartbeats 4000000 in
theorem law6 (ao : Option Addr) (c n : Nat) (ss : List ByteArray) (w : World) (h : ArgIds w ao n ss) :
    Calls Try.prog 6 #[.slice ao n c] w fun e w' => e = .returned (.bool true) ∧ Below w.heap.size w w' := by
  have H16 := hide (bytes16' ao c n ss w h)
  have hn := h.n
  unfold maxLen at hn
  have H := hide h
  clear h
  go_enter Try.func6, Try.ntmps6
  go_wp2_with fail
  refine H16.out.mono ?_
  rintro e w' ⟨⟨r, rfl⟩, rfl⟩
  clear H16
  cases r
  · go_wp2
    go_ret
    exact ⟨rfl, Below.refl _ _⟩
  · by_cases hb : n ≤ 4096
    · have hb' : ¬ (4096 : Int) < (n : Int) := by omega
      have hd : decide ((4096 : Int) < (n : Int)) = false := decide_eq_false hb'
      go_wp2
      go_loop [3, 4] (fun t k => ∃ (tt : Nat) (kk : Nat), tt ≤ 1048576 ∧ kk ≤ n ∧ t = .int .i64 tt ∧ k = .int .i64 kk) (fun _ k => n - (intOf k).toNat)
      case atStart => exact ⟨16 * n, 0, by omega, Nat.zero_le _, vi (by omega), rfl⟩
      case round =>
        obtain ⟨tt, kk, ht, hk, rfl, rfl⟩ := hrel
        clear hd hb'
        by_cases hlt : kk < n
        · obtain ⟨b, off, rfl, hcell⟩ := H.out.cell kk hlt
          have hsz := H.out.size kk hlt
          generalize ss.getD kk ByteArray.empty = s at hcell hsz
          unfold maxLen at hsz
          by_cases h1 : s.size ≤ 1048576
          · have h1' : ¬ (1048576 : Int) < (s.size : Int) := by omega
            by_cases h2 : tt + s.size ≤ 1048576
            · have h2' : ¬ (1048576 : Int) < (tt : Int) + (s.size : Int) := by omega
              go_wp2
              go_round
              case rel => exact ⟨tt + s.size, kk + 1, h2, by omega, vi (by omega), vi (by omega)⟩
              case measure => simp [intOf]; omega
            · have h2' : (1048576 : Int) < (tt : Int) + (s.size : Int) := by omega
              go_wp2
              go_ret
              exact ⟨rfl, Below.refl _ _⟩
          · have h1' : (1048576 : Int) < (s.size : Int) := by omega
            go_wp2
            go_ret
            exact ⟨rfl, Below.refl _ _⟩
        · go_wp2_with fail
          refine (new17 w).mono ?_
          rintro e w' ⟨rfl, hR, hB⟩
          have HL0 := hide (LSt.mk (v6 := .slice none 0 0) hB hR (World.ownsRow_nil _ _ _ _) (fun g hg => by cases hg) (fun s hs => by cases hs))
          clear hR hB hlt
          go_wp2
          go_loopw [7, 6] (fun t f wr => ∃ (i : Nat) (v6 : Value) (S : List ByteArray) (vm : Value) (D : DataW Unit), i ≤ n ∧ t = .int .i64 i ∧ v6 = f ∧ Hid (S.length ≤ i) ∧ Hid (LSt w wr S vm D v6)) (fun t _ _ => n - (intOf t).toNat)
          case atStart => exact ⟨0, _, [], _, _, Nat.zero_le _, rfl, rfl, Nat.le_refl _, HL0.out⟩
          case round =>
            clear HL0
            obtain ⟨wo, rfl⟩ : ∃ wo, wo = wr := ⟨wr, rfl⟩
            obtain ⟨i, v6, S, vm, D, hi, rfl, rfl, HSi, HL⟩ := hrel
            obtain ⟨a6, c6, rfl, hc1, hc2⟩ := own_form HL.out.seen
            obtain ⟨L, hL⟩ : ∃ L, L = S.length := ⟨_, rfl⟩
            rw [← hL] at hc1 ⊢
            have HLn := hide hL
            clear hL
            unfold maxLen at hc2
            by_cases hin : i < n
            · obtain ⟨b, off, rfl, hcell⟩ := (H.out.below HL.out.bel).cell i hin
              have hsz := H.out.size i hin
              generalize ss.getD i ByteArray.empty = s at hcell hsz
              have HSz := hide hsz
              clear hsz
              have hL4 : L ≤ 4096 := by have := HSi.out; rw [← HLn.out] at this; omega
              go_wp2
              go_loopw [9, 8] (fun jv wnt wr => ∃ (j q : Nat), j ≤ L ∧ jv = .int .i64 j ∧ wnt = .int .i64 L ∧ wr = wo.drewN q ∧ Hid (∀ p, p < j → S.getD p ByteArray.empty ≠ s)) (fun jv _ _ => L - (intOf jv).toNat)
              case atStart => exact ⟨0, 0, Nat.zero_le _, rfl, rfl, rfl, fun p hp => absurd hp (Nat.not_lt_zero _)⟩
              case round =>
                obtain ⟨j, q, hj, rfl, rfl, rfl, HJ⟩ := hrel
                by_cases hjL : j < L
                · obtain ⟨g, c7, he6, hcell6⟩ := HL.out.cell (j := j) (by rw [← HLn.out]; exact hjL)
                  simp only [Value.slice.injEq] at he6
                  obtain ⟨rfl, hLS, rfl⟩ := he6
                  clear hLS
                  obtain ⟨x, hx⟩ : ∃ x, x = S.getD j ByteArray.empty := ⟨_, rfl⟩
                  rw [← hx] at hcell6
                  have HX := hide hx
                  clear hx
                  go_wp2
                  go_quiet (fail)
                  by_cases hxs : x = s
                  · subst hxs
                    have hxx : (x.toList == x.toList) = true := by simp
                    rw [hxx]
                    clear hxx
                    have hjne : ((j : Int) == (L : Int)) = false := by rw [beq_eq_false_iff_ne]; omega
                    have H18 := hide (old18 w.heap.size S vm D x j (wo.drewN (q + nq)) (HL.out.run.drewN (q + nq)) HSz.out (by rw [← HLn.out]; exact hjL) HX.out.symm)
                    go_wp2_with fail
                    refine H18.out.mono ?_
                    rintro e w' ⟨rfl, rfl⟩
                    go_wp2
                    go_roundw
                    case measure => simp [intOf]; omega
                    case rel => exact ⟨i + 1, _, S, vm, D, by omega, vi (by omega), rfl, by show _ ≤ _; have := HSi.out; omega, by have := HL.out.drewN (q + nq); rw [← HLn.out] at this; exact this⟩
                  · have hxs' := str_ne hxs
                    rw [hxs']
                    have HXS := hide hxs
                    clear hxs hxs'
                    go_wp2
                    go_roundw
                    case measure => simp [intOf]; omega
                    case rel => exact ⟨j + 1, q + nq, by omega, vi (by omega), rfl, rfl, fun p hp => by
                      by_cases e : p = j
                      · subst e; rw [← HX.out]; exact HXS.out
                      · exact HJ.out p (by omega)⟩
                · obtain rfl : j = L := by omega
                  have hno : s ∉ S := not_mem_of (by rw [← HLn.out]; exact HJ.out)
                  have HNo := hide hno
                  obtain ⟨i0, hi0, hz0, hz1, hz2⟩ := info_parts Try.info9
                  have HI0 := hide hi0
                  have HZ0 := hide hz0
                  have HZ1 := hide hz1
                  have HZ2 := hide hz2
                  have hown0 := (HL.out.drewN q).seen
                  rw [← HLn.out] at hown0
                  have HO := hide hown0
                  have hlow : w.heap.size + 3 ≤ wo.heap.size := HL.out.run.size
                  clear hno hi0 hz0 hz1 hz2 hown0
                  go_wp2_with (first | (at_builtin; refine wpList_append_lies _ rfl _ _ 26 rfl (w.heap.size + 3) 9 i0 _ 1 16 Try.underlying26 HI0.out HZ0.out HZ1.out HZ2.out (by decide) (by decide) (.slice a6 j c6) j (strs S) rfl (HO.out.alloc _) ⟨wo.heap.size, 0, none⟩ 1 1 [.string s] rfl rfl ?_ ?_ (by decide) ?_ ?_ ?_ (wo.heap.size + 1) (by simp) ?_))
                  · exact World.news_of_block (heap_alloc_new (wo.drewN q) _)
                  · intro u hu; simp at hu; subst hu; rfl
                  · unfold maxLen; omega
                  · omega
                  · simp; omega
                  intro g cap2 w2 hown hgrow hat hlt
                  have hstep : RSt w.heap.size w2 S vm D ∧ ∀ w3, Laid w.heap.size S vm s w2 w3 → ∃ vm' D', LSt w w3 (S ++ [s]) vm' D' (.slice (some ⟨g, 0, none⟩) (j + 1) cap2) := by
                    have hH := HL.out.drewN q
                    have e := HLn.out
                    subst e
                    exact hH.step HSz.out hown hgrow hat
                  have hcell2 : w2.cell? ⟨b, off + i, none⟩ = some (.string s) := by
                    have hb0 : b < w.heap.size := by
                      obtain ⟨b', off', e, hc⟩ := H.out.cell i hin
                      simp only [Option.some.injEq, Addr.mk.injEq] at e
                      obtain ⟨rfl, _⟩ := e
                      exact World.block_lt_of_cell? w _ hc
                    have hne : some b ≠ (Value.slice a6 j c6).ownBlock := fun e => by
                      have := (HO.out.lt b e.symm).1
                      omega
                    have hbk : w2.heap[b]? = wo.heap[b]? := (hgrow.block b (by simp; omega) hne).trans (Below.heap_alloc (wo.drewN q) _ _ (by show b < wo.heap.size; omega))
                    exact (World.cell?_of_block (w := wo) (a := ⟨b, off + i, none⟩) hbk).trans hcell
                  have H18 := hide (new18 w.heap.size S vm D s w2 hstep.1 HSz.out (by rw [← HLn.out]; omega) HNo.out)
                  have HST := hide hstep.2
                  clear hown hgrow hat hlt hstep hcell HO
                  go_wp2_with fail
                  refine H18.out.mono ?_
                  rintro e w3 ⟨rfl, hl⟩
                  rw [← HLn.out]
                  obtain ⟨vm2, D2, hL2⟩ := HST.out w3 hl
                  have HL2 := hide hL2
                  clear hL2 hl hcell2 HST
                  go_wp2
                  go_roundw
                  case measure => simp [intOf]; omega
                  case rel => exact ⟨i + 1, _, S ++ [s], vm2, D2, by omega, vi (by omega), rfl, by show _ ≤ _; have := HSi.out; rw [List.length_append, List.length_singleton]; omega, HL2.out⟩
            · obtain rfl : i = n := by omega
              have H19 := hide (count19 w.heap.size S vm D wo HL.out.run)
              have H20 := hide (count20 w.heap.size S vm D wo HL.out.run)
              rw [← HLn.out] at H19 H20
              have hL4 : L ≤ 4096 := by have := HSi.out; rw [← HLn.out] at this; omega
              go_wp2_with fail
              refine H19.out.mono ?_
              rintro e w' ⟨rfl, rfl⟩
              go_wp2_with fail
              refine H20.out.mono ?_
              rintro e w' ⟨rfl, rfl⟩
              clear H19 H20
              go_wp2
              go_loopw [10] (fun t wr => ∃ (k : Nat), k ≤ L ∧ t = .int .i64 k ∧ Hid (LSt w wr S vm D (.slice a6 L c6))) (fun t _ => L - (intOf t).toNat)
              case atStart => exact ⟨0, Nat.zero_le _, rfl, by have := HL.out; rw [← HLn.out] at this; exact this⟩
              case round =>
                clear HL
                obtain ⟨k, hkL, rfl, HL⟩ := hrel
                by_cases hkl : k < L
                · have hk' : k < S.length := by rw [← HLn.out]; exact hkl
                  have H21 := hide (at21 w.heap.size S vm D k wr HL.out.run hk' (by rw [← HLn.out]; exact hL4))
                  go_wp2_with fail
                  refine H21.out.mono ?_
                  rintro e w1 ⟨rfl, hb1⟩
                  have HL1 := hide (HL.out.more hb1)
                  clear hb1 H21 HL
                  obtain ⟨g, c7, he6, hcell6⟩ := HL1.out.cell hk'
                  simp only [Value.slice.injEq] at he6
                  obtain ⟨rfl, hLS, rfl⟩ := he6
                  clear hLS
                  obtain ⟨x, hx⟩ : ∃ x, x = S.getD k ByteArray.empty := ⟨_, rfl⟩
                  have hxm : x ∈ S := by rw [hx]; simp [List.getD, List.getElem?_eq_getElem hk']
                  have H22 := hide (index22 w.heap.size S vm D x k w1 HL1.out.run (HL1.out.small x hxm) hk' hx.symm)
                  rw [← hx] at hcell6 ⊢
                  have hxx : (x.toList == x.toList) = true := by simp
                  have hxn : (x.toList != x.toList) = false := by simp
                  clear hx hxm hk'
                  go_wp2_with fail
                  refine H22.out.mono ?_
                  rintro e w' ⟨rfl, rfl⟩
                  go_wp2
                  go_roundw
                  case measure => simp [intOf]; omega
                  case rel => exact ⟨k + 1, by omega, vi (by omega), HL1.out⟩
                · obtain rfl : k = L := by omega
                  have H23 := hide (others23 w.heap.size S vm D wr HL.out.run)
                  go_wp2_with fail
                  refine H23.out.mono ?_
                  rintro e w1 ⟨rfl, q, rfl⟩
                  go_wp2
                  go_ret
                  exact ⟨rfl, drewN_below HL.out.bel q⟩
    · have hb' : (4096 : Int) < (n : Int) := by omega
      go_wp2
      go_ret
      exact ⟨rfl, Below.refl _ _⟩
end Go.Proofs.Qxb6602375a.Rm
