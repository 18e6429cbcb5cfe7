import Derived.Test.Qxb6602375aHc3
namespace Go.Proofs.Qxb6602375a.Hc
open Go.RowKit

theorem Try.info3 : (Try.prog.info? 3).map (fun i => (i.zero, i.size, i.bytes)) = some (some (.int .i64 0), 1, 8) := by kernel_rfl
theorem info_parts {o : Option TypeInfo} {z : Value} {s b : Nat} (h : o.map (fun i => (i.zero, i.size, i.bytes)) = some (some z, s, b)) : ∃ i, o = some i ∧ i.zero = some z ∧ i.size = s ∧ i.bytes = b := by
  cases o with
  | none => cases h
  | some i =>
    simp only [Option.map_some, Option.some.injEq, Prod.mk.injEq] at h
    exact ⟨i, rfl, h.1, h.2.1, h.2.2⟩
theorem cell_lt {w : World} {a : Addr} {v : Value} (h : w.cell? a = some v) : a.block < w.heap.size := World.block_lt_of_cell? w a h

theorem new_cell (w : World) (v : Value) (t : TypeId) (B : Nat) (h : w.heap.size = B) : (w.alloc (.cells #[v] t)).cell? ⟨B, 0 + 0, none⟩ = some v := by
  subst h
  simp
/-- The ints of a list, as values. -/
def ints (xs : List Nat) : List Value := xs.map fun x : Nat => .int .i64 (x : Int)
theorem ints_length (xs : List Nat) : (ints xs).length = xs.length := by unfold ints; rw [List.length_map]
theorem ints_append (xs ys : List Nat) : ints (xs ++ ys) = ints xs ++ ints ys := by unfold ints; rw [List.map_append]

/-- A slice of ints that the call owns. -/
def Own (w : World) (lo : Nat) (v : Value) (xs : List Nat) : Prop := w.ownsRow lo 3 1 v xs.length (ints xs)
theorem Own.set {w : World} {lo : Nat} {v : Value} {xs : List Nat} (h : Own w lo v xs) {a : Addr} (ha : a.block < lo) (u : Value) : Own (w.setCell a u) lo v xs := ownsRow_setCell_below h ha u
theorem Own.last {w : World} {lo : Nat} {v : Value} {xs : List Nat} {x : Nat} (h : Own w lo v (xs ++ [x])) :
    ∃ g cap, v = .slice (some ⟨g, 0, none⟩) (xs.length + 1) cap ∧ lo ≤ g ∧ xs.length + 1 ≤ cap ∧ cap ≤ maxLen ∧ w.cell? ⟨g, xs.length, none⟩ = some (.int .i64 (x : Int)) ∧ w.frozen? ⟨g, xs.length, none⟩ = false ∧ Own w lo (.slice (some ⟨g, 0, none⟩) xs.length cap) xs := by
  have hl : (xs ++ [x]).length = xs.length + 1 := by simp
  unfold Own at h
  have hh := h
  rw [hl] at h
  rcases h.2 with ⟨_, h0⟩ | ⟨g, cap, cur, rfl, hb, hg, hc, hm, hs, ht⟩
  · omega
  · refine ⟨g, cap, rfl, hb, hc, hm, ?_, by simp [World.frozen?, hg], by rw [ints_length]; omega, .inr ⟨g, cap, cur, rfl, hb, hg, by omega, hm, hs, ?_⟩⟩
    · have := hh.cells (g := g) rfl xs.length (.int .i64 (x : Int)) (by rw [ints_append, List.getElem?_append_right (by rw [ints_length]; exact Nat.le_refl _), ints_length, Nat.sub_self]; rfl)
      rw [Addr.add_lit, Nat.zero_add] at this
      exact this
    · have e : cur.toList.take xs.length = (cur.toList.take ((xs.length + 1) * 1)).take xs.length := by rw [List.take_take]; congr 1; omega
      rw [Nat.mul_one, e, ht, ints_append]
      exact List.take_left' (ints_length xs)

/-- A graph that came in, as the walk reads it. -/
structure ArgG (w : World) (b off n : Nat) (G : List (List Nat)) (A : Nat → Option Addr) (C : Nat → Nat) : Prop where
  cell : ∀ k, k < n → w.cell? ⟨b, off + k, none⟩ = some (.slice (A k) (row G k).length (C k))
  edge : ∀ k j, k < n → j < (row G k).length → ∃ b' o', A k = some ⟨b', o', none⟩ ∧ w.cell? ⟨b', o' + j, none⟩ = some (.int .i64 (((row G k).getD j 0 : Nat) : Int))
  len : ∀ k, (row G k).length ≤ 131072
  small : n ≤ 131072
  size : G.length = n
  heads : ∀ u v, v ∈ row G u → v < n
theorem ArgG.head {w : World} {b off n : Nat} {G : List (List Nat)} {A : Nat → Option Addr} {C : Nat → Nat} (h : ArgG w b off n G A C) {u j : Nat} (hj : j < (row G u).length) : (row G u).getD j 0 < n := by
  refine h.heads u _ ?_
  rw [List.getD_eq_getElem?_getD, List.getElem?_eq_getElem hj]; exact List.getElem_mem hj
theorem ArgG.below {w w' : World} {b off n : Nat} {G : List (List Nat)} {A : Nat → Option Addr} {C : Nat → Nat} (h : ArgG w b off n G A C) (hb : Below w.heap.size w w') : ArgG w' b off n G A C := by
  refine ⟨fun k hk => ?_, fun k j hk hj => ?_, h.len, h.small, h.size, h.heads⟩
  · have := h.cell k hk
    exact (hb.cell (p := ⟨b, off + k, none⟩) (cell_lt this)).trans this
  · obtain ⟨b', o', h1, h2⟩ := h.edge k j hk hj
    exact ⟨b', o', h1, (hb.cell (p := ⟨b', o' + j, none⟩) (cell_lt h2)).trans h2⟩

/-- The memory of the taking away: the counts, and the free nodes. -/
structure KSt (w wr : World) (n : Nat) (I : Nat → Nat) (v : Value) (F : List Nat) : Prop where
  bel : Below w.heap.size w wr
  inc : wr.rowIs w.heap.size 3 n (fun q => .int .i64 ((I q : Nat) : Int))
  own : Own wr (w.heap.size + 1) v F
theorem KSt.set {w wr : World} {n : Nat} {I I' : Nat → Nat} {v : Value} {F : List Nat} (h : KSt w wr n I v F) (y : Nat) (z : Int) (hI : ∀ q, q < n → ((I' q : Nat) : Int) = if q = y then z else (I q : Int)) :
    KSt w (wr.setCell ⟨w.heap.size, y, none⟩ (.int .i64 z)) n I' v F := by
  refine ⟨h.bel.setCell (Nat.le_refl _) _, (h.inc.set y _).congr fun q hq => ?_, h.own.set (by show w.heap.size < _; omega) _⟩
  show _ = Value.int .i64 ((I' q : Nat) : Int)
  rw [hI q hq]
  by_cases e : q = y
  · rw [if_pos e, if_pos e]
  · rw [if_neg e, if_neg e]
theorem KSt.push {w wr w2 : World} {n : Nat} {I : Nat → Nat} {v : Value} {F : List Nat} (h : KSt w wr n I v F) {o : Obj} {y g cap : Nat}
    (hown : w2.ownsRow (w.heap.size + 1) 3 1 (.slice (some ⟨g, 0, none⟩) (F.length + 1) cap) (F.length + 1) (ints F ++ [.int .i64 (y : Int)])) (hg : (wr.alloc o).grownBy w2 v.ownBlock) :
    KSt w w2 n I (.slice (some ⟨g, 0, none⟩) (F.length + 1) cap) (F ++ [y]) := by
  have hlt := h.inc.lt
  have hrow : ∀ k, v.ownBlock = some k → w.heap.size + 1 ≤ k := fun k hk => ((World.ownsRow.lt h.own) k hk).1
  have hlen : (F ++ [y]).length = F.length + 1 := by simp
  refine ⟨(h.bel.alloc (by have := h.bel.size; omega) _).grown hg (by simp; omega) (fun k hk => by have := hrow k hk; omega), ?_, ?_⟩
  · exact (h.inc.alloc o).of_block (hg.block _ (by simp; omega) (fun e => by have := hrow _ e.symm; omega))
  · unfold Own
    rw [hlen, ints_append]
    exact hown

/-- It answers whether there is a knot. -/
def Says (e : Ending) (G : List (List Nat)) : Prop := ∃ r : Bool, e = .returned (.bool r) ∧ (r = true ↔ Knot G)
theorem Says.of {e : Ending} {G : List (List Nat)} {r : Bool} (h : e = .returned (.bool r)) (hr : r = true ↔ Knot G) : Says e G := ⟨r, h, hr⟩
theorem filter_succ (I : Nat → Nat) (k : Nat) : (List.range (k + 1)).filter (fun v => I v == 0) = (List.range k).filter (fun v => I v == 0) ++ (if I k = 0 then [k] else []) := by
  rw [List.range_succ, List.filter_append]
  by_cases h : I k = 0
  · simp [h]
  · simp [h]
theorem Kahn.start (G : List (List Nat)) : Kahn G (into G (List.range G.length)) ((List.range G.length).filter (fun v => into G (List.range G.length) v == 0)) [] := by
  refine ⟨fun v _ => rfl, ?_, fun v hv => ?_, fun v hv => ?_, trivial⟩
  · rw [List.nil_append]; exact List.nodup_range.sublist List.filter_sublist
  · rw [List.nil_append, List.mem_filter] at hv; exact List.mem_range.1 hv.1
  · rw [List.nil_append, List.mem_filter, List.mem_range]; simp [hv]

set_option maxRecDepth 100000 in
set_option maxHeartbeats 4000000 in
theorem kahn28 (b off c n : Nat) (G : List (List Nat)) (A : Nat → Option Addr) (C : Nat → Nat) (w : World) (h : ArgG w b off n G A C) :
    Calls Try.prog 28 #[.slice (some ⟨b, off, none⟩) n c] w fun e w' => Says e G ∧ Below w.heap.size w w' := by
  have hn := h.small
  have mk1 := run_make_row' (P := Try.prog) 24 3 (.int .i64 0) 8 Try.underlying24 Try.info3 rfl .i64 .i64 n (by omega) (by omega)
  obtain ⟨i0, hi0, hz0, hz1, hz2⟩ := info_parts Try.info3
  have HI0 := hide hi0
  have HZ0 := hide hz0
  have HZ1 := hide hz1
  have HZ2 := hide hz2
  have H := hide h
  have HB := hide (fun (k v : Nat) => into_le G v 131072 h.len k)
  clear h hi0 hz0 hz1 hz2
  go_enter Try.func28, Try.ntmps28
  go_wp2
  go_loopw [20] (fun t wr => ∃ k : Nat, k ≤ n ∧ t = .int .i64 k ∧ Hid (KSt w wr n (into G (List.range k)) (.slice none 0 0) [])) (fun t _ => n - (intOf t).toNat)
  case atStart => exact ⟨0, Nat.zero_le _, rfl, (Below.refl _ _).alloc (Nat.le_refl _) _, World.rowIs_made _ _ _ _, World.ownsRow_nil _ _ _ _⟩
  case round =>
    clear mk1
    obtain ⟨wo, rfl⟩ : ∃ wo, wo = wr := ⟨wr, rfl⟩
    obtain ⟨k, hk, rfl, HK⟩ := hrel
    by_cases hkn : k < n
    · have hcell := (H.out.below HK.out.bel).cell k hkn
      have hle := H.out.len k
      obtain ⟨l, hl⟩ : ∃ l, l = (row G k).length := ⟨_, rfl⟩
      obtain ⟨ak, hak⟩ : ∃ ak, ak = A k := ⟨_, rfl⟩
      rw [← hl] at hle
      rw [← hl, ← hak] at hcell
      have Hl := hide hl
      have Hak := hide hak
      clear hl hak
      go_wp2
      go_loopw [26] (fun t wr => ∃ j : Nat, j ≤ l ∧ t = .int .i64 j ∧ Hid (KSt w wr n (fun v => into G (List.range k) v + ((row G k).take j).count v) (.slice none 0 0) [])) (fun t _ => l - (intOf t).toNat)
      case atStart => exact ⟨0, Nat.zero_le _, rfl, HK.out⟩
      case round =>
        obtain ⟨j, hj, rfl, HJ⟩ := hrel
        clear hcell
        by_cases hjl : j < l
        · obtain ⟨b', o', hA, hc2⟩ := (H.out.below HJ.out.bel).edge k j hkn (by rw [← Hl.out]; exact hjl)
          rw [← Hak.out] at hA
          subst hA
          have hyn := H.out.head (u := k) (j := j) (by rw [← Hl.out]; exact hjl)
          obtain ⟨y, hy⟩ : ∃ y, y = (row G k).getD j 0 := ⟨_, rfl⟩
          rw [← hy] at hc2 hyn
          have s3 := HJ.out.inc.cell hyn
          have s4 := HJ.out.inc.frozen y
          have hbd : into G (List.range k) y + ((row G k).take j).count y ≤ 34359738368 := by
            have h1 := HB.out k y
            have h2 : ((row G k).take j).count y ≤ (row G k).count y := (List.take_sublist _ _).count_le y
            have h3 := List.count_le_length (a := y) (l := row G k)
            have h4 := Hl.out
            have h5 : k * 131072 ≤ 131072 * 131072 := Nat.mul_le_mul_right _ (by omega)
            omega
          obtain ⟨m, hm⟩ : ∃ m, m = into G (List.range k) y + ((row G k).take j).count y := ⟨_, rfl⟩
          rw [← hm] at s3 hbd
          have Hm := hide hm
          have Hy := hide hy
          clear hy hm
          go_wp2
          go_roundw
          case measure => simp [intOf]; omega
          case rel =>
            refine ⟨j + 1, by omega, vi (by omega), HJ.out.set y _ fun q hq => ?_⟩
            rw [count_take _ _ _ (by rw [← Hl.out]; exact hjl), ← Hy.out]
            by_cases e : q = y
            · subst e
              have := Hm.out
              rw [if_pos rfl, if_pos rfl]; omega
            · rw [if_neg (fun e' => e e'.symm), if_neg e]; omega
        · obtain rfl : j = l := by omega
          go_wp2
          go_roundw
          case measure => simp [intOf]; omega
          case rel =>
            refine ⟨k + 1, by omega, vi (by omega), ?_⟩
            have h1 := HJ.out
            rw [Hl.out, List.take_length] at h1
            refine ⟨h1.bel, h1.inc.congr fun q _ => ?_, h1.own⟩
            rw [into_succ]
    · obtain rfl : k = n := by omega
      have HG := hide (Kahn.start G)
      rw [H.out.size] at HG
      have hbI : ∀ v, into G (List.range k) v ≤ 34359738368 := fun v => by
        have h1 := HB.out k v
        have h5 : k * 131072 ≤ 131072 * 131072 := Nat.mul_le_mul_right _ (by omega)
        omega
      have HBI := hide hbI
      clear hbI HB
      obtain ⟨I, hI⟩ : ∃ I, I = into G (List.range k) := ⟨_, rfl⟩
      rw [← hI] at HK HG HBI
      have HI := hide hI
      clear hI hkn
      go_wp2
      go_loopw [40, 8] (fun t f wr => ∃ (p : Nat) (v : Value), p ≤ k ∧ t = .int .i64 p ∧ v = f ∧ Hid (KSt w wr k I v ((List.range p).filter (fun v => I v == 0)))) (fun t _ _ => k - (intOf t).toNat)
      case atStart => exact ⟨0, _, Nat.zero_le _, rfl, rfl, HK.out⟩
      case round =>
        clear hk
        obtain ⟨p, v, hp, rfl, rfl, HP⟩ := hrel
        have hlen : ((List.range p).filter (fun v => I v == 0)).length ≤ 131072 := by
          have h1 := List.length_filter_le (fun v => I v == 0) (List.range p)
          rw [List.length_range] at h1
          omega
        by_cases hpk : p < k
        · have s1 := HP.out.inc.cell hpk
          by_cases h0 : I p = 0
          · rw [h0] at s1
            have Hlen := hide hlen
            have H0 := hide h0
            clear hlen h0
            go_wp2_with (first | (at_builtin; refine wpList_append_lies _ rfl _ _ 24 rfl (w.heap.size + 1) 3 i0 _ 1 8 Try.underlying24 HI0.out HZ0.out HZ1.out HZ2.out rfl (by decide) v _ _ rfl (HP.out.own.alloc _) ⟨wr.heap.size, 0, none⟩ 1 1 [.int .i64 (p : Int)] rfl rfl ?_ ?_ (by decide) ?_ ?_ ?_ (wr.heap.size + 1) (by simp) ?_))
            · intro j u hj
              cases j with
              | zero => simp at hj; subst hj; simp [Addr.add]
              | succ j => simp at hj
            · intro u hu; simp at hu; subst hu; rfl
            · have := Hlen.out; unfold maxLen; omega
            · have := Hlen.out; omega
            · have := HP.out.inc.lt; simp; omega
            intro g cap w2 hown hgrow hat hlt
            have HP2 := hide (HP.out.push hown hgrow)
            clear hown hgrow hat hlt
            go_wp2
            go_roundw
            case measure => simp [intOf]; omega
            case rel =>
              refine ⟨p + 1, _, by omega, vi (by omega), rfl, ?_⟩
              show KSt _ _ _ _ _ _
              rw [filter_succ, if_pos H0.out]
              exact HP2.out
          · have hz : (((I p : Nat) : Int) == 0) = false := by rw [beq_eq_false_iff_ne]; omega
            generalize I p = ip at s1 hz
            clear hlen
            go_wp2
            go_roundw
            case measure => simp [intOf]; omega
            case rel =>
              refine ⟨p + 1, _, by omega, vi (by omega), rfl, ?_⟩
              show KSt _ _ _ _ _ _
              rw [filter_succ, if_neg h0, List.append_nil]
              exact HP.out
        · obtain rfl : p = k := by omega
          obtain ⟨F0, hF0⟩ : ∃ F0, F0 = (List.range p).filter (fun v => I v == 0) := ⟨_, rfl⟩
          rw [← hF0] at HG HP
          clear hF0 hlen HK hpk
          go_wp2
          go_loopw [8, 11] (fun f t wr => ∃ (v : Value) (I1 : Nat → Nat) (F T : List Nat) (m : Nat), v = f ∧ t = .int .i64 m ∧ m ≤ p ∧ Hid (T.length = m) ∧ Hid (KSt w wr p I1 v F) ∧ Hid (Kahn G I1 F T)) (fun _ t _ => p - (intOf t).toNat)
          case atStart => exact ⟨v, I, F0, [], 0, rfl, rfl, Nat.zero_le _, rfl, HP.out, HG.out⟩
          case round =>
            clear HP HG
            obtain ⟨wo2, rfl⟩ : ∃ wo2, wo2 = wr := ⟨wr, rfl⟩
            obtain ⟨v1, I1, F, T, m, rfl, rfl, hmp, Hm, HP, HG⟩ := hrel
            rcases List.eq_nil_or_concat F with rfl | ⟨F1, x, rfl⟩
            · have hdone := HG.out.done (by rw [H.out.size]; exact H.out.heads)
              rw [H.out.size, Hm.out] at hdone
              have hd : ∀ e : Ending, e = .returned (.bool (decide (m < p))) → Says e G := fun e he => Says.of he (by rw [decide_eq_true_eq]; exact hdone)
              have HD := hide hd
              clear hd hdone
              rcases HP.out.own.2 with ⟨rfl, _⟩ | ⟨g, cap, cur, rfl, _, _, hc1, hc2, _, _⟩
              · go_wp2
                go_ret
                exact ⟨HD.out _ rfl, HP.out.bel⟩
              · unfold maxLen at hc2
                go_wp2
                go_ret
                exact ⟨HD.out _ rfl, HP.out.bel⟩
            · rw [List.concat_eq_append] at HP HG
              obtain ⟨g, cap, rfl, hlo, hcap, hmax, hc, hfz, hown⟩ := HP.out.own.last
              have HE := HG.out.enter
              have hx : x < p := by have := HE.node; rw [H.out.size] at this; exact this
              have hmlt : m + 1 ≤ p := by
                have h1 := nodup_le (List.nodup_append.1 HE.nodup).1 (fun q hq => HE.lt q (List.mem_append_left _ hq))
                rw [List.length_cons, H.out.size, Hm.out] at h1
                exact h1
              have HP1 := hide (KSt.mk HP.out.bel HP.out.inc hown)
              have HE1 := hide HE
              have hcell := (H.out.below HP.out.bel).cell x hx
              have hle := H.out.len x
              clear HP HG HE hown
              unfold maxLen at hmax
              obtain ⟨l, hl⟩ : ∃ l, l = (row G x).length := ⟨_, rfl⟩
              obtain ⟨ak, hak⟩ : ∃ ak, ak = A x := ⟨_, rfl⟩
              rw [← hl] at hle
              rw [← hl, ← hak] at hcell
              have Hl := hide hl
              have Hak := hide hak
              clear hl hak
              obtain ⟨q, hq⟩ : ∃ q, q = F1.length := ⟨_, rfl⟩
              rw [← hq] at hc hfz hcap ⊢
              have Hq := hide hq
              have hq0 : (0 : Int) < ((q + 1 : Nat) : Int) := by omega
              clear hq
              go_wp2
              clear hc hfz hq0 hcap hmax hlo
              go_loopw [73, 8] (fun t f wr => ∃ (j : Nat) (v : Value) (I2 : Nat → Nat) (F2 : List Nat), j ≤ l ∧ t = .int .i64 j ∧ v = f ∧ Hid (KSt w wr p I2 v F2) ∧ Hid (KahnIn G I2 F2 T x j)) (fun t _ _ => l - (intOf t).toNat)
              case atStart => exact ⟨0, _, I1, F1, Nat.zero_le _, rfl, by rw [Hq.out], HP1.out, HE1.out⟩
              case round =>
                obtain ⟨j, v2, I2, F2, hj, rfl, rfl, HK2, HE2⟩ := hrel
                clear HP1 HE1 Hq hcell
                by_cases hjl : j < l
                · have hjl' : j < (row G x).length := by rw [← Hl.out]; exact hjl
                  obtain ⟨b', o', hA, hc2⟩ := (H.out.below HK2.out.bel).edge x j hx hjl'
                  rw [← Hak.out] at hA
                  subst hA
                  have hyn := H.out.head (u := x) (j := j) hjl'
                  have hpos := HE2.out.pos hjl' (by rw [H.out.size]; exact hyn)
                  obtain ⟨y, hy⟩ : ∃ y, y = (row G x).getD j 0 := ⟨_, rfl⟩
                  rw [← hy] at hc2 hyn hpos
                  have hyG : y < G.length := by rw [H.out.size]; exact hyn
                  have hbd : I2 y ≤ 34359738368 := by
                    have h1 := HE2.out.sum y hyG
                    have h2 := HBI.out y
                    rw [H.out.size, ← HI.out] at h1
                    omega
                  have hF2 : F2.length ≤ 131072 := by
                    have h1 := nodup_le (List.nodup_append.1 HE2.out.nodup).2.1 (fun q hq => HE2.out.lt q (List.mem_append_right _ hq))
                    rw [H.out.size] at h1
                    omega
                  have s3 := HK2.out.inc.cell hyn
                  have s4 := HK2.out.inc.frozen y
                  obtain ⟨d, hd⟩ : ∃ d, I2 y = d + 1 := ⟨I2 y - 1, by omega⟩
                  have HS := fun F' hF => HE2.out.step (I' := fun v => if v = y then I2 y - 1 else I2 v) (F' := F') hjl' hy hyG (fun _ _ => rfl) hF
                  have hS := fun z hz => HK2.out.set (I' := fun v => if v = y then I2 y - 1 else I2 v) y z hz
                  have hS2 := hS (d : Int) (fun q hq => by
                    show (((if q = y then I2 y - 1 else I2 q : Nat)) : Int) = _
                    by_cases e : q = y
                    · rw [if_pos e, if_pos e]; omega
                    · rw [if_neg e, if_neg e])
                  rw [hd] at s3
                  have HS1 := hide HS
                  have HS2 := hide hS2
                  have HD := hide hd
                  have HF2 := hide hF2
                  have hd2 : d ≤ 34359738368 := by omega
                  have hcs : ∀ u, (wr.setCell ⟨w.heap.size, y, none⟩ u).cell? ⟨w.heap.size, y, none⟩ = some u := fun u => by
                    have := (HK2.out.inc.set y u).cell hyn
                    rw [if_pos rfl] at this
                    exact this
                  clear hd HS hS2 hS hpos hy hyG hbd hF2 hjl' HK2 HE2
                  by_cases hd0 : d = 0
                  · subst hd0
                    go_wp2_with (first | (at_builtin; refine wpList_append_lies _ rfl _ _ 24 rfl (w.heap.size + 1) 3 i0 _ 1 8 Try.underlying24 HI0.out HZ0.out HZ1.out HZ2.out rfl (by decide) v2 _ _ rfl (HS2.out.own.alloc _) ⟨wr.heap.size, 0, none⟩ 1 1 [.int .i64 (y : Int)] rfl rfl ?_ ?_ (by decide) ?_ ?_ ?_ (wr.heap.size + 1) (by simp) ?_))
                    · intro j u hj
                      cases j with
                      | zero =>
                        simp at hj; subst hj
                        rw [Addr.add_lit]
                        exact new_cell _ _ _ _ (by simp)
                      | succ j => simp at hj
                    · intro u hu; simp at hu; subst hu; rfl
                    · have := HF2.out; unfold maxLen; omega
                    · have := HF2.out; omega
                    · have := HS2.out.inc.lt; simp; simp at this; omega
                    intro g2 cap2 w2 hown hgrow hat hlt
                    have HP2 := hide (HS2.out.push hown hgrow)
                    clear hown hgrow hat hlt HS2 hcs s3 s4 hc2
                    go_wp2
                    go_roundw
                    case measure => simp [intOf]; omega
                    case rel =>
                      exact ⟨j + 1, _, _, F2 ++ [y], by omega, vi (by omega), rfl, HP2.out, HS1.out _ (by rw [if_pos (by have := HD.out; omega)])⟩
                  · have hz : ((d : Int) == 0) = false := by rw [beq_eq_false_iff_ne]; omega
                    go_wp2
                    go_roundw
                    case measure => simp [intOf]; omega
                    case rel =>
                      exact ⟨j + 1, _, _, F2, by omega, vi (by omega), rfl, HS2.out, HS1.out F2 (by rw [if_neg (by have := HD.out; omega)])⟩
                · obtain rfl : j = l := by omega
                  go_wp2
                  go_roundw
                  case measure => simp [intOf]; omega
                  case rel =>
                    refine ⟨v2, I2, F2, x :: T, m + 1, rfl, vi (by omega), hmlt, ?_, HK2.out, ?_⟩
                    · show _ = _
                      rw [List.length_cons, Hm.out]
                    · have := HE2.out
                      rw [Hl.out] at this
                      exact this.leave
end Go.Proofs.Qxb6602375a.Hc
