import Derived.Test.Qxb6602375aHc4
import Derived.OneCell
import Derived.OwnWalk
namespace Go.Proofs.Qxb6602375a.Hc
open Go.RowKit

/-- The value of a slice from a block's first cell on. -/
def sl (g l c : Nat) : Value := .slice (some ⟨g, 0, none⟩) l c

theorem Own.setLast {w : World} {lo g l c : Nat} {xs : List Nat} {x : Nat} (h : Own w lo (sl g l c) (xs ++ [x])) (y : Nat) : Own (w.setCell ⟨g, xs.length, none⟩ (.int .i64 (y : Int))) lo (sl g l c) (xs ++ [y]) := by
  have hl : (xs ++ [x]).length = xs.length + 1 := by simp
  have hl2 : (xs ++ [y]).length = xs.length + 1 := by simp
  unfold Own at h ⊢
  rw [hl] at h
  rw [hl2]
  rcases h.2 with ⟨_, h0⟩ | ⟨g', cap, cur, hv, hb, hg, hc, hm, hs, ht⟩
  · omega
  · unfold sl at hv
    simp only [Value.slice.injEq, Option.some.injEq, Addr.mk.injEq] at hv
    obtain ⟨⟨rfl, _⟩, rfl, rfl⟩ := hv
    refine ⟨by rw [ints_length]; simp, .inr ⟨g, c, cur.setIfInBounds xs.length (.int .i64 (y : Int)), rfl, hb, ?_, hc, hm, by simpa using hs, ?_⟩⟩
    · simp [World.setCell, Array.getElem?_modify, hg]
    · have e : cur.toList.take xs.length = (cur.toList.take ((xs.length + 1) * 1)).take xs.length := by rw [List.take_take]; congr 1; omega
      have e2 : cur.toList.take xs.length = ints xs := by
        rw [e, ht, ints_append]
        exact List.take_left' (ints_length xs)
      have hsz : xs.length < cur.toList.length := by rw [Array.length_toList (xs := cur)]; omega
      rw [Nat.mul_one, Array.toList_setIfInBounds, List.take_succ_eq_append_getElem (by rw [List.length_set]; exact hsz), List.getElem_set_self, List.take_set_of_le (Nat.le_refl _), e2, ints_append]
      rfl

/-- The memory of the search: the colours, the nodes and the edges of the stack. -/
structure Two (w wr : World) (n : Nat) (col : Nat → Nat) (g5 c5 g6 c6 : Nat) (xs ys : List Nat) : Prop where
  bel : Below w.heap.size w wr
  col : wr.rowIs w.heap.size 3 n (fun q => .int .i64 ((col q : Nat) : Int))
  nodes : Own wr (w.heap.size + 1) (sl g5 xs.length c5) xs
  edges : Own wr (w.heap.size + 1) (sl g6 ys.length c6) ys
  apart : g5 ≠ g6
theorem Two.swap {w wr : World} {n : Nat} {col : Nat → Nat} {g5 c5 g6 c6 : Nat} {xs ys : List Nat} (h : Two w wr n col g5 c5 g6 c6 xs ys) : Two w wr n col g6 c6 g5 c5 ys xs := ⟨h.bel, h.col, h.edges, h.nodes, h.apart.symm⟩
theorem Own.lo {w : World} {lo g l c : Nat} {xs : List Nat} (h : Own w lo (sl g l c) xs) : lo ≤ g ∧ g < w.heap.size := World.ownsRow.lt h g rfl
theorem Two.set {w wr : World} {n : Nat} {col col' : Nat → Nat} {g5 c5 g6 c6 : Nat} {xs ys : List Nat} (h : Two w wr n col g5 c5 g6 c6 xs ys) (y z : Nat) (hI : ∀ q, q < n → col' q = if q = y then z else col q) :
    Two w (wr.setCell ⟨w.heap.size, y, none⟩ (.int .i64 (z : Int))) n col' g5 c5 g6 c6 xs ys := by
  refine ⟨h.bel.setCell (Nat.le_refl _) _, (h.col.set y _).congr fun q hq => ?_, h.nodes.set (by show w.heap.size < _; omega) _, h.edges.set (by show w.heap.size < _; omega) _, h.apart⟩
  show _ = Value.int .i64 ((col' q : Nat) : Int)
  rw [hI q hq]
  by_cases e : q = y
  · rw [if_pos e, if_pos e]
  · rw [if_neg e, if_neg e]
theorem Two.pushN {w wr w2 : World} {n : Nat} {col : Nat → Nat} {g5 c5 g6 c6 : Nat} {xs ys : List Nat} (h : Two w wr n col g5 c5 g6 c6 xs ys) {o : Obj} {y g cap l : Nat} (hl : xs.length = l)
    (hown : w2.ownsRow (w.heap.size + 1) 3 1 (.slice (some ⟨g, 0, none⟩) (l + 1) cap) (l + 1) (ints xs ++ [.int .i64 (y : Int)])) (hg : (wr.alloc o).grownBy w2 (some g5)) (H : Nat) (hH : wr.heap.size = H) (hat : some g5 = some g ∨ g = H + 1) :
    Two w w2 n col g cap g6 c6 (xs ++ [y]) ys := by
  subst hl
  have hlt := h.col.lt
  have h5 := h.nodes.lo
  have h6 := h.edges.lo
  have hlen : (xs ++ [y]).length = xs.length + 1 := by simp
  refine ⟨(h.bel.alloc (by have := h.bel.size; omega) _).grown hg (by simp; omega) (fun k hk => by cases hk; omega), ?_, ?_, ?_, ?_⟩
  · exact (h.col.alloc o).of_block (hg.block _ (by simp; omega) (fun e => by cases e; omega))
  · unfold Own
    rw [hlen, ints_append]
    exact hown
  · exact (World.ownsRow.alloc h.edges o).kept hg (.inr (by show some g6 ≠ some g5; intro e; cases e; exact h.apart rfl))
  · rcases hat with e | e
    · cases e; exact h.apart
    · omega
theorem Two.pushE {w wr w2 : World} {n : Nat} {col : Nat → Nat} {g5 c5 g6 c6 : Nat} {xs ys : List Nat} (h : Two w wr n col g5 c5 g6 c6 xs ys) {o : Obj} {y g cap l : Nat} (hl : ys.length = l)
    (hown : w2.ownsRow (w.heap.size + 1) 3 1 (.slice (some ⟨g, 0, none⟩) (l + 1) cap) (l + 1) (ints ys ++ [.int .i64 (y : Int)])) (hg : (wr.alloc o).grownBy w2 (some g6)) (H : Nat) (hH : wr.heap.size = H) (hat : some g6 = some g ∨ g = H + 1) :
    Two w w2 n col g5 c5 g cap xs (ys ++ [y]) := (h.swap.pushN hl hown hg H hH hat).swap
/-- What the top of the nodes holds. -/
theorem Two.topN {w wr : World} {n : Nat} {col : Nat → Nat} {g5 c5 g6 c6 x : Nat} {xs ys : List Nat} (h : Two w wr n col g5 c5 g6 c6 (xs ++ [x]) ys) :
    xs.length + 1 ≤ c5 ∧ c5 ≤ maxLen ∧ wr.cell? ⟨g5, xs.length, none⟩ = some (.int .i64 (x : Int)) ∧ wr.frozen? ⟨g5, xs.length, none⟩ = false ∧ Two w wr n col g5 c5 g6 c6 xs ys := by
  obtain ⟨g, cap, hv, h1, h2, h3, h4, h5, h6⟩ := h.nodes.last
  unfold sl at hv
  simp only [Value.slice.injEq, Option.some.injEq, Addr.mk.injEq] at hv
  obtain ⟨⟨rfl, _⟩, _, rfl⟩ := hv
  exact ⟨h2, h3, h4, h5, h.bel, h.col, h6, h.edges, h.apart⟩
theorem Two.setE {w wr : World} {n : Nat} {col : Nat → Nat} {g5 c5 g6 c6 e : Nat} {xs ys : List Nat} (h : Two w wr n col g5 c5 g6 c6 xs (ys ++ [e])) (z : Nat) (zi : Int) (hz : zi = (z : Int)) :
    Two w (wr.setCell ⟨g6, ys.length, none⟩ (.int .i64 zi)) n col g5 c5 g6 c6 xs (ys ++ [z]) := by
  subst hz
  have h6 := h.edges.lo
  refine ⟨h.bel.setCell (by show w.heap.size ≤ g6; omega) _, h.col.setOther (by show w.heap.size ≠ g6; omega) _, ?_, ?_, h.apart⟩
  · exact ownsRow_setCell_other h.nodes (by show some g5 ≠ some g6; intro e; cases e; exact h.apart rfl) _
  · have := h.edges.setLast z
    rw [show (ys ++ [e]).length = (ys ++ [z]).length by simp] at this
    exact this
theorem Two.capN {w wr : World} {n : Nat} {col : Nat → Nat} {g5 c5 g6 c6 : Nat} {xs ys : List Nat} (h : Two w wr n col g5 c5 g6 c6 xs ys) : xs.length ≤ c5 ∧ c5 ≤ maxLen := by
  rcases h.nodes.2 with ⟨e, _⟩ | ⟨g, cap, cur, hv, _, _, hc, hm, _⟩
  · unfold sl at e; cases e
  · unfold sl at hv
    simp only [Value.slice.injEq] at hv
    obtain ⟨_, _, rfl⟩ := hv
    exact ⟨hc, hm⟩

/-- 'append' of one int to a slice that the call owns. -/
theorem append_int {ops : Array Oper} {rest : List Oper} {o : Oper} {a : Act} {Q : Exit → Act → World → Prop} (wr : World) (hgd : o.guard = none) (s x : Operand)
    (ho : o.op = .call { callee := .builtin .append, args := #[s, x], argTypes := #[24, 24] }) (base B : Nat) (v : Value) (xs : List Nat) (l : Nat) (hl : xs.length = l) (y : Nat) (yi : Int) (hy : yi = (y : Int)) (hs : a.eval s = v) (hown : Own wr base v xs)
    (hx : a.eval x = .slice (some ⟨B, 0, none⟩) 1 1) (hB : wr.heap.size = B) (hlen : l ≤ 131072) (hbase : base ≤ wr.heap.size)
    (h : ∀ g cap w', w'.ownsRow base 3 1 (.slice (some ⟨g, 0, none⟩) (l + 1) cap) (l + 1) (ints xs ++ [.int .i64 (y : Int)]) → (wr.alloc (.cells #[.int .i64 yi] 3)).grownBy w' v.ownBlock → (v.ownBlock = some g ∨ g = wr.heap.size + 1) →
      wpList Try.prog ops Q rest (a.put o.dst (.slice (some ⟨g, 0, none⟩) (l + 1) cap)) w') : wpList Try.prog ops Q (o :: rest) a (wr.alloc (.cells #[.int .i64 yi] 3)) := by
  subst hl
  subst hy
  subst hB
  obtain ⟨i0, hi0, hz0, hz1, hz2⟩ := info_parts Try.info3
  refine wpList_append_lies _ hgd s x 24 ho base 3 i0 _ 1 8 Try.underlying24 hi0 hz0 hz1 hz2 rfl (by decide) v _ _ hs (hown.alloc _) ⟨wr.heap.size, 0, none⟩ 1 1 [.int .i64 (y : Int)] hx rfl ?_ ?_ (by decide) ?_ ?_ ?_ (wr.heap.size + 1) (by simp) ?_
  · intro j u hj
    cases j with
    | zero =>
      simp at hj; subst hj
      rw [Addr.add_lit]
      exact new_cell _ _ _ _ rfl
    | succ j => simp at hj
  · intro u hu; simp at hu; subst hu; rfl
  · unfold maxLen; omega
  · omega
  · simp; omega
  · intro g cap w' h1 h2 h3 _
    exact h g cap w' h1 h2 h3

/-- The nodes and the edges of the stack, its top last. -/
def nd (K : List (Nat × Nat)) : List Nat := (K.map Prod.fst).reverse
def ed (K : List (Nat × Nat)) : List Nat := (K.map Prod.snd).reverse
theorem nd_cons (u e : Nat) (K : List (Nat × Nat)) : nd ((u, e) :: K) = nd K ++ [u] := by unfold nd; rw [List.map_cons, List.reverse_cons]
theorem ed_cons (u e : Nat) (K : List (Nat × Nat)) : ed ((u, e) :: K) = ed K ++ [e] := by unfold ed; rw [List.map_cons, List.reverse_cons]
theorem nd_len (K : List (Nat × Nat)) : (nd K).length = K.length := by unfold nd; rw [List.length_reverse, List.length_map]
theorem ed_len (K : List (Nat × Nat)) : (ed K).length = K.length := by unfold ed; rw [List.length_reverse, List.length_map]

/-- Where the search stands, in memory and in thought; m steps are left at most. -/
structure DRel (G : List (List Nat)) (w : World) (n k m : Nat) (v5 v6 : Value) (wr : World) (g5 c5 g6 c6 : Nat) (col : Nat → Nat) (K : List (Nat × Nat)) (D : List Nat) : Prop where
  e5 : v5 = .slice (some ⟨g5, 0, none⟩) K.length c5
  e6 : v6 = .slice (some ⟨g6, 0, none⟩) K.length c6
  mem : Two w wr n col g5 c5 g6 c6 (nd K) (ed K)
  dfs : Dfs G col K D
  seen : ∀ q, q < k → col q ≠ 0
  left : m + steps G K D = total G
def DRel' (G : List (List Nat)) (w : World) (n k : Nat) (v5 v6 : Value) (wr : World) (m : Nat) : Prop := ∃ g5 c5 g6 c6 col K D, DRel G w n k m v5 v6 wr g5 c5 g6 c6 col K D

theorem least_le {L : (Nat → Prop) → Nat} {p : Nat → Prop} {m : Nat} (hL : Hid (∀ p, (∃ m, p m) → Least p (L p))) (hp : p m) : L p ≤ m := Nat.le_of_not_lt fun h => (hL.out p ⟨m, hp⟩).2 m h hp
theorem steps_next (G : List (List Nat)) (u e : Nat) (K : List (Nat × Nat)) (D : List Nat) : steps G ((u, e + 1) :: K) D = steps G ((u, e) :: K) D + 1 := by
  unfold steps; simp only [List.map_cons, List.sum_cons]; omega
theorem steps_push (G : List (List Nat)) (v : Nat) (K : List (Nat × Nat)) (D : List Nat) : steps G ((v, 0) :: K) D = steps G K D := by
  unfold steps; simp only [List.map_cons, List.sum_cons]; omega
theorem steps_pop (G : List (List Nat)) (u : Nat) (K : List (Nat × Nat)) (D : List Nat) : steps G K (u :: D) = steps G ((u, (row G u).length) :: K) D + 1 := by
  unfold steps; simp only [List.map_cons, List.sum_cons]; omega

set_option maxRecDepth 100000 in
set_option maxHeartbeats 4000000 in
theorem dfs12 (b off c n : Nat) (G : List (List Nat)) (A : Nat → Option Addr) (C : Nat → Nat) (w : World) (h : ArgG w b off n G A C) :
    Calls Try.prog 12 #[.slice (some ⟨b, off, none⟩) n c] w fun e w' => Says e G ∧ Below w.heap.size w w' := by
  obtain ⟨L, hL⟩ := least_fun
  have hn := h.small
  have mk1 := run_make_row' (P := Try.prog) 24 3 (.int .i64 0) 8 Try.underlying24 Try.info3 rfl .i64 .i64 n (by omega) (by omega)
  obtain ⟨i0, hi0, hz0, hz1, hz2⟩ := info_parts Try.info3
  have HI0 := hide hi0
  have HZ0 := hide hz0
  have HZ1 := hide hz1
  have HZ2 := hide hz2
  have H := hide h
  have HL := hide hL
  clear h hi0 hz0 hz1 hz2 hL
  go_enter Try.func12, Try.ntmps12
  go_wp2_with (first | (at_make; refine wpList_make_own _ rfl _ _ 24 rfl (w.heap.size + 1) 3 i0 _ 1 Try.underlying24 HI0.out HZ0.out HZ1.out _ _ _ n rfl rfl rfl (by rw [HZ2.out]; omega) (by unfold maxLen; omega) (by simp) ?_))
  intro w1 own1 grow1
  go_wp2_with (first | (at_make; refine wpList_make_own _ rfl _ _ 24 rfl (w.heap.size + 1) 3 i0 _ 1 Try.underlying24 HI0.out HZ0.out HZ1.out _ _ _ n rfl rfl rfl (by rw [HZ2.out]; omega) (by unfold maxLen; omega) (by have := grow1.size; simp at this; omega) ?_))
  intro w2 own2 grow2
  have hT : Two w w2 n (fun _ => 0) (w.heap.size + 1) n w1.heap.size n [] [] := by
    have h1 : w.heap.size + 1 < w1.heap.size := (World.ownsRow.lt own1 _ rfl).2
    have hr0 := World.rowIs_made w (.int .i64 0) n 3
    have b1 : Below w.heap.size w w1 := ((Below.refl _ _).alloc (Nat.le_refl _) _).grown grow1 (by simp) (fun k e => by cases e)
    refine ⟨b1.grown grow2 b1.size (fun k e => by cases e), ?_, ?_, own2, by omega⟩
    · exact (hr0.of_block (grow1.block _ (by simp) (by simp))).of_block (grow2.block _ (by omega) (by simp))
    · exact own1.kept grow2 (.inr (by simp [Value.ownBlock]))
  have HT := hide hT
  clear hT own1 own2 grow1 grow2 mk1
  generalize w1.heap.size = G6 at HT ⊢
  generalize w.heap.size + 1 = G5 at HT ⊢
  go_wp2
  go_loopw [7, 5, 6] (fun s v5 v6 wr => ∃ (k g5 c5 g6 c6 : Nat) (col : Nat → Nat) (D : List Nat), k ≤ n ∧ s = .int .i64 k ∧ v5 = .slice (some ⟨g5, 0, none⟩) 0 c5 ∧ v6 = .slice (some ⟨g6, 0, none⟩) 0 c6 ∧ Hid (Two w wr n col g5 c5 g6 c6 [] []) ∧ Hid (Dfs G col [] D) ∧ Hid (∀ q, q < k → col q ≠ 0)) (fun s _ _ _ => n - (intOf s).toNat)
  case atStart => exact ⟨0, G5, n, G6, n, fun _ => 0, [], Nat.zero_le _, rfl, rfl, rfl, HT.out, Dfs.start G, fun q hq => absurd hq (Nat.not_lt_zero _)⟩
  case round =>
    clear HT
    obtain ⟨k, g5, c5, g6, c6, col, D, hk, rfl, rfl, rfl, HT, HD, HS⟩ := hrel
    by_cases hkn : k < n
    · have s1 := HT.out.col.cell hkn
      have s2 := HT.out.col.frozen k
      have hc5 := HT.out.capN.2
      have hc6 := HT.out.swap.capN.2
      by_cases h0 : col k = 0
      · rw [h0] at s1
        have HT1 := hide (HT.out.set (col' := fun q => if q = k then 1 else col q) k 1 (fun q _ => rfl))
        have HD1 := hide (HD.out.push (col' := fun q => if q = k then 1 else col q) (v := k) (by rw [H.out.size]; exact hkn) h0 (fun q _ => rfl) ⟨fun j hj => absurd hj (Nat.not_lt_zero _), Nat.zero_le _, fun y hy => (by cases hy), trivial⟩)
        have HS1 : Hid (∀ q, q < k + 1 → (fun q => if q = k then 1 else col q) q ≠ 0) := fun q hq => by
          show (if q = k then 1 else col q) ≠ 0
          by_cases e : q = k
          · rw [if_pos e]; omega
          · rw [if_neg e]; exact HS.out q (by omega)
        unfold maxLen at hc5 hc6
        clear HT HD HS h0
        have hlo := HT1.out.nodes.lo
        have hlo6 := HT1.out.edges.lo
        have hlow : w.heap.size + 1 ≤ wr.heap.size := by have h1 := hlo.1; have h2 := hlo.2; simp at h2; omega
        have Hlow := hide hlow
        clear hlow hlo hlo6
        go_wp2_with (first | (at_builtin; refine append_int (wr.setCell ⟨w.heap.size, k, none⟩ (.int .i64 1)) rfl _ _ rfl (w.heap.size + 1) wr.heap.size (.slice (some ⟨g5, 0, none⟩) 0 c5) [] 0 rfl k _ rfl rfl HT1.out.nodes rfl (by simp) (by simp) (by have := Hlow.out; simp; omega) ?_))
        intro g cap w3 hown hgrow hat
        have HT2 := hide (HT1.out.pushN rfl hown hgrow wr.heap.size (by simp) hat)
        have Hlow3 := hide (show w.heap.size + 1 ≤ w3.heap.size by have h1 := HT2.out.nodes.lo.1; have h2 := HT2.out.nodes.lo.2; omega)
        clear hown hgrow hat HT1 Hlow s1 s2
        go_wp2_with (first | (at_builtin; refine append_int w3 rfl _ _ rfl (w.heap.size + 1) w3.heap.size (.slice (some ⟨g6, 0, none⟩) 0 c6) [] 0 rfl 0 _ rfl rfl HT2.out.edges rfl rfl (by simp) Hlow3.out ?_))
        intro g2 cap2 w4 hown hgrow hat
        have HT3 := hide (HT2.out.pushE rfl hown hgrow w3.heap.size rfl hat)
        clear hown hgrow hat HT2 Hlow3
        have hst : ∃ m, m + steps G [(k, 0)] D = total G := ⟨total G - steps G [(k, 0)] D, by have := HD1.out.le; omega⟩
        have HST := hide hst
        clear hst
        go_wp2
        go_loopw [5, 6] (fun v5 v6 wr => ∃ m, DRel' G w n (k + 1) v5 v6 wr m) (fun v5 v6 wr => L (DRel' G w n (k + 1) v5 v6 wr))
        case atStart =>
          obtain ⟨m, hm⟩ := HST.out
          exact ⟨m, g, cap, g2, cap2, _, [(k, 0)], D, rfl, rfl, HT3.out, HD1.out, HS1.out, hm⟩
        case round =>
          clear HT3 HD1 HS1 HST hc5 hc6
          have hLs := (HL.out _ hrel).1
          generalize hm0 : L _ = m0 at hLs
          have HM := hide hm0
          clear hm0 hrel
          obtain ⟨p5, q5, p6, q6, col1, K, D1, hR⟩ := hLs
          obtain ⟨rfl, rfl, hmem, hdfs, hseen, hleft⟩ := hR
          have HSeen := hide hseen
          clear hseen
          cases K with
          | nil =>
            have HMem := hide hmem
            have HDfs := hide hdfs
            have h5 := hmem.capN.2
            have h6 := hmem.swap.capN.2
            unfold maxLen at h5 h6
            clear hmem hdfs hleft HM
            go_wp2
            go_roundw
            case measure => simp [intOf]; omega
            case rel => exact ⟨k + 1, p5, q5, p6, q6, col1, D1, by omega, vi (by omega), rfl, rfl, HMem.out, HDfs.out, HSeen.out⟩
          | cons top K1 =>
            obtain ⟨u, e⟩ := top
            rw [nd_cons, ed_cons] at hmem
            obtain ⟨t1, t2, s5, z1, hpop⟩ := hmem.topN
            obtain ⟨t3, t4, s6, f6, z2⟩ := hmem.swap.topN
            obtain ⟨z3, z4, z5, z6, hpop2⟩ := hpop.swap.topN
            clear z1 z2 z3 z4 z5 z6
            have hset := fun zi hz => hmem.setE (e + 1) zi hz
            rw [nd_len] at t1 s5
            rw [ed_len] at t3 s6 f6 hset
            have hu : u < n := by have := hdfs.lt u (by simp); rw [H.out.size] at this; exact this
            have heb : e ≤ (row G u).length := hdfs.chain.2.1
            have hcell := (H.out.below hmem.bel).cell u hu
            have hle := H.out.len u
            obtain ⟨l, hl⟩ : ∃ l, l = (row G u).length := ⟨_, rfl⟩
            obtain ⟨ak, hak⟩ : ∃ ak, ak = A u := ⟨_, rfl⟩
            rw [← hl] at hle heb
            rw [← hl, ← hak] at hcell
            have Hl := hide hl
            have Hak := hide hak
            have HMem := hide hmem
            have HPop := hide hpop2.swap
            have HDfs := hide hdfs
            have HSet := hide hset
            have HLeft := hide hleft
            have hKb := hdfs.stack
            rw [H.out.size, List.length_cons] at hKb
            clear hl hak hmem hpop hpop2 hdfs hset hleft
            unfold maxLen at t2 t4
            rw [List.length_cons] at HM ⊢
            obtain ⟨t, ht⟩ : ∃ t, t = K1.length := ⟨_, rfl⟩
            rw [← ht] at t1 t3 s5 s6 f6 HSet HM hKb ⊢
            have Ht := hide ht
            clear ht
            by_cases hel : e < l
            · have hel' : e < (row G u).length := by rw [← Hl.out]; exact hel
              have ht2 := HSet.out ((e : Int) + 1) (by omega)
              obtain ⟨b', o', hA, hc2⟩ := (H.out.below ht2.bel).edge u e hu hel'
              have hcell2 := (H.out.below ht2.bel).cell u hu
              rw [← Hl.out, ← Hak.out] at hcell2
              rw [← Hak.out] at hA
              subst hA
              have hvn := H.out.head (u := u) (j := e) hel'
              obtain ⟨v, hv⟩ : ∃ v, v = (row G u).getD e 0 := ⟨_, rfl⟩
              rw [← hv] at hc2 hvn
              have hvG : v < G.length := by rw [H.out.size]; exact hvn
              have s7 := ht2.col.cell hvn
              have s8 := ht2.col.frozen v
              have HT2 := hide ht2
              have Hv := hide hv
              have HvG := hide hvG
              have Hel := hide hel'
              clear ht2 hv hvG hel' HSet
              by_cases h1 : col1 v = 1
              · rw [h1] at s7
                have HK := hide (HDfs.out.knot Hel.out (by rw [← Hv.out]; exact HvG.out) (by rw [← Hv.out]; exact h1))
                clear h1 HDfs HPop HMem
                go_wp2
                go_ret
                exact ⟨Says.of (r := true) rfl ⟨fun _ => HK.out, fun _ => rfl⟩, HT2.out.bel⟩
              · by_cases h0 : col1 v = 0
                · rw [h0] at s7
                  have HD2 := hide (HDfs.out.go (col' := fun q => if q = v then 1 else col1 q) Hel.out Hv.out HvG.out h0 (fun q _ => rfl))
                  have HT3 := hide (HT2.out.set (col' := fun q => if q = v then 1 else col1 q) v 1 (fun q _ => rfl))
                  have HLow := hide (show w.heap.size + 1 ≤ wr.heap.size by have h1 := HMem.out.nodes.lo.1; have h2 := HMem.out.nodes.lo.2; omega)
                  have hx5 : (nd K1 ++ [u]).length = t + 1 := by rw [List.length_append, nd_len, ← Ht.out]; rfl
                  have hx6 : (ed K1 ++ [e + 1]).length = t + 1 := by rw [List.length_append, ed_len, ← Ht.out]; rfl
                  have own5 := HT3.out.nodes
                  rw [hx5] at own5
                  have HO5 := hide own5
                  have HX5 := hide hx5
                  have HX6 := hide hx6
                  clear own5 hx5 hx6 h0 h1 HDfs HPop HMem HT2
                  go_wp2_with (first | (at_builtin; refine append_int ((wr.setCell ⟨p6, t, none⟩ (.int .i64 ((e : Int) + 1))).setCell ⟨w.heap.size, v, none⟩ (.int .i64 1)) rfl _ _ rfl (w.heap.size + 1) wr.heap.size (.slice (some ⟨p5, 0, none⟩) (t + 1) q5) (nd K1 ++ [u]) (t + 1) HX5.out v _ rfl rfl HO5.out rfl (by simp) (by omega) (by have := HLow.out; simp; omega) ?_))
                  intro g7 cap7 w7 hown hgrow hat
                  have HT4 := hide (HT3.out.pushN HX5.out hown hgrow wr.heap.size (by simp) hat)
                  have HLow7 := hide (show w.heap.size + 1 ≤ w7.heap.size by have h1 := HT4.out.nodes.lo.1; have h2 := HT4.out.nodes.lo.2; omega)
                  have own6 := HT4.out.edges
                  rw [HX6.out] at own6
                  have HO6 := hide own6
                  clear own6 hown hgrow hat HLow HO5 s5 s6 s7 s8 f6 hcell hcell2 hc2
                  go_wp2_with (first | (at_builtin; refine append_int w7 rfl _ _ rfl (w.heap.size + 1) w7.heap.size (.slice (some ⟨p6, 0, none⟩) (t + 1) q6) (ed K1 ++ [e + 1]) (t + 1) HX6.out 0 _ rfl rfl HO6.out rfl rfl (by omega) HLow7.out ?_))
                  intro g8 cap8 w8 hown hgrow hat
                  have HT5 := hide (HT4.out.pushE HX6.out hown hgrow w7.heap.size rfl hat)
                  have hnew : ∀ x5 x6, x5 = Value.slice (some ⟨g7, 0, none⟩) (t + 1 + 1) cap7 → x6 = Value.slice (some ⟨g8, 0, none⟩) (t + 1 + 1) cap8 → DRel' G w n (k + 1) x5 x6 w8 (m0 - 1) ∧ m0 - 1 < m0 := fun x5 x6 h5 h6 => by
                    have hst := steps_next G u e K1 D1
                    have hst2 := steps_push G v ((u, e + 1) :: K1) D1
                    have hb := HD2.out.le
                    have := HLeft.out
                    refine ⟨⟨g7, cap7, g8, cap8, _, (v, 0) :: (u, e + 1) :: K1, D1, by rw [h5, List.length_cons, List.length_cons, Ht.out], by rw [h6, List.length_cons, List.length_cons, Ht.out], by rw [nd_cons, ed_cons, nd_cons, ed_cons]; exact HT5.out, HD2.out, fun q hq => ?_, by omega⟩, by omega⟩
                    show (if q = v then 1 else col1 q) ≠ 0
                    by_cases e : q = v
                    · rw [if_pos e]; omega
                    · rw [if_neg e]; exact HSeen.out q hq
                  have HN := hide hnew
                  clear hnew hown hgrow hat HT5 HT4 HT3 HD2 HO6 HLow7
                  go_wp2
                  go_roundw
                  case rel => exact ⟨_, (HN.out _ _ rfl rfl).1⟩
                  case measure =>
                    rw [HM.out]
                    exact Nat.lt_of_le_of_lt (least_le HL (HN.out _ _ rfl rfl).1) (HN.out _ _ rfl rfl).2
                · have h2 : col1 v = 2 := by have := HDfs.out.some v HvG.out; omega
                  rw [h2] at s7
                  have HD2 := hide (HDfs.out.skip Hel.out (by rw [← Hv.out]; exact (HDfs.out.two v HvG.out).2 h2))
                  have hnew : ∀ x5 x6, x5 = Value.slice (some ⟨p5, 0, none⟩) (t + 1) q5 → x6 = Value.slice (some ⟨p6, 0, none⟩) (t + 1) q6 → DRel' G w n (k + 1) x5 x6 (wr.setCell ⟨p6, t, none⟩ (.int .i64 ((e : Int) + 1))) (m0 - 1) ∧ m0 - 1 < m0 := fun x5 x6 h5 h6 => by
                    have hst := steps_next G u e K1 D1
                    have hb := HD2.out.le
                    have := HLeft.out
                    refine ⟨⟨p5, q5, p6, q6, col1, (u, e + 1) :: K1, D1, by rw [h5, List.length_cons, Ht.out], by rw [h6, List.length_cons, Ht.out], by rw [nd_cons, ed_cons]; exact HT2.out, HD2.out, HSeen.out, by omega⟩, by omega⟩
                  have HN := hide hnew
                  clear hnew h0 h1 h2 HDfs HPop HMem HD2
                  go_wp2
                  go_roundw
                  case rel => exact ⟨_, (HN.out _ _ rfl rfl).1⟩
                  case measure =>
                    rw [HM.out]
                    exact Nat.lt_of_le_of_lt (least_le HL (HN.out _ _ rfl rfl).1) (HN.out _ _ rfl rfl).2
            · obtain rfl : e = l := by omega
              have s7 := HMem.out.col.cell hu
              have s8 := HMem.out.col.frozen u
              generalize col1 u = cu at s7
              have HD2 := hide (HDfs.out.pop (col' := fun q => if q = u then 2 else col1 q) (by rw [← Hl.out]; exact hel) (fun q _ => rfl))
              have HT2 := hide (HPop.out.set (col' := fun q => if q = u then 2 else col1 q) u 2 (fun q _ => rfl))
              have hnew : ∀ x5 x6, x5 = Value.slice (some ⟨p5, 0, none⟩) t q5 → x6 = Value.slice (some ⟨p6, 0, none⟩) t q6 → DRel' G w n (k + 1) x5 x6 (wr.setCell ⟨w.heap.size, u, none⟩ (.int .i64 2)) (m0 - 1) ∧ m0 - 1 < m0 := fun x5 x6 h5 h6 => by
                have hst := steps_pop G u K1 D1
                rw [← Hl.out] at hst
                have hb := HD2.out.le
                have := HLeft.out
                refine ⟨⟨p5, q5, p6, q6, _, K1, u :: D1, by rw [h5, Ht.out], by rw [h6, Ht.out], HT2.out, HD2.out, fun q hq => ?_, by omega⟩, by omega⟩
                show (if q = u then 2 else col1 q) ≠ 0
                by_cases e : q = u
                · rw [if_pos e]; omega
                · rw [if_neg e]; exact HSeen.out q hq
              have HN := hide hnew
              clear hnew HDfs HPop HMem HD2 HT2 HSet
              go_wp2
              go_roundw
              case rel => exact ⟨_, (HN.out _ _ rfl rfl).1⟩
              case measure =>
                rw [HM.out]
                exact Nat.lt_of_le_of_lt (least_le HL (HN.out _ _ rfl rfl).1) (HN.out _ _ rfl rfl).2
      · have hz : (((col k : Nat) : Int) != 0) = true := by rw [bne_iff_ne]; omega
        have HS1 : Hid (∀ q, q < k + 1 → col q ≠ 0) := fun q hq => by
          by_cases e : q = k
          · rw [e]; exact h0
          · exact HS.out q (by omega)
        generalize col k = ck at s1 hz
        clear hc5 hc6 HS h0
        go_wp2
        go_roundw
        case measure => simp [intOf]; omega
        case rel => exact ⟨k + 1, g5, c5, g6, c6, col, D, by omega, vi (by omega), rfl, rfl, HT.out, HD.out, HS1.out⟩
    · obtain rfl : k = n := by omega
      go_wp2
      go_ret
      exact ⟨Says.of (r := false) rfl ⟨fun e => (by cases e), fun hk => absurd hk (HD.out.none (by rw [H.out.size]; exact HS.out) (by rw [H.out.size]; exact H.out.heads))⟩, HT.out.bel⟩
end Go.Proofs.Qxb6602375a.Hc
