import Derived.Test.Qxb6602375aHc
namespace Go.Proofs.Qxb6602375a.Hc

/-! ### Sums over lists without doubles -/
theorem sum_erase (f : Nat → Nat) (a : Nat) : ∀ m : List Nat, a ∈ m → (m.map f).sum = f a + ((m.erase a).map f).sum
  | [], h => by cases h
  | b :: m, h => by
    by_cases e : b = a
    · subst e; rw [List.erase_cons_head, List.map_cons, List.sum_cons]
    · have h' : a ∈ m := by
        rcases List.mem_cons.1 h with h | h
        · exact absurd h.symm e
        · exact h
      rw [List.erase_cons_tail (by simpa using e), List.map_cons, List.sum_cons, List.map_cons, List.sum_cons, sum_erase f a m h']
      omega
theorem sum_sub (f : Nat → Nat) : ∀ (l m : List Nat), l.Nodup → (∀ x ∈ l, x ∈ m) → (l.map f).sum ≤ (m.map f).sum
  | [], m, _, _ => Nat.zero_le _
  | a :: l, m, hn, hs => by
    have ha : a ∈ m := hs a (List.mem_cons_self ..)
    rw [List.nodup_cons] at hn
    have ih := sum_sub f l (m.erase a) hn.2 (fun x hx => by
      have hne : x ≠ a := fun e => hn.1 (e ▸ hx)
      exact (List.mem_erase_of_ne hne).2 (hs x (List.mem_cons_of_mem _ hx)))
    rw [List.map_cons, List.sum_cons, sum_erase f a m ha]
    omega
theorem sum_one (l : List Nat) : (l.map fun _ => 1).sum = l.length := by
  induction l with
  | nil => rfl
  | cons a l ih => rw [List.map_cons, List.sum_cons, ih, List.length_cons]; omega
theorem nodup_len {l m : List Nat} (hn : l.Nodup) (hs : ∀ x ∈ l, x ∈ m) : l.length ≤ m.length := by
  rw [← sum_one l, ← sum_one m]; exact sum_sub _ l m hn hs
theorem nodup_le {l : List Nat} {n : Nat} (hn : l.Nodup) (hs : ∀ x ∈ l, x < n) : l.length ≤ n := by
  have := nodup_len (m := List.range n) hn (fun x hx => List.mem_range.2 (hs x hx))
  rwa [List.length_range] at this
theorem sum_zero_out (f : Nat → Nat) (m T : List Nat) (hm : m.Nodup) (h : ∀ u ∈ m, u ∈ T ∨ f u = 0) : (m.map f).sum ≤ (T.map f).sum := by
  have h1 : (m.map f).sum = ((m.filter (fun u => f u != 0)).map f).sum := by
    clear hm h
    induction m with
    | nil => rfl
    | cons a m ih =>
      rw [List.map_cons, List.sum_cons, ih]
      by_cases e : f a = 0
      · rw [List.filter_cons_of_neg (by simp [e])]; omega
      · rw [List.filter_cons_of_pos (by simpa using e), List.map_cons, List.sum_cons]
  rw [h1]
  refine sum_sub f _ T (hm.sublist List.filter_sublist) (fun x hx => ?_)
  rw [List.mem_filter] at hx
  rcases h x hx.1 with h | h
  · exact h
  · simp [h] at hx

/-! ### The graph -/
/-- The heads of node u. -/
def row (G : List (List Nat)) (u : Nat) : List Nat := G.getD u []
/-- A set of nodes, not empty, each with an edge into it out of the set. -/
def Knot (G : List (List Nat)) : Prop := ∃ C : List Nat, C ≠ [] ∧ ∀ c ∈ C, ∃ p ∈ C, c ∈ row G p
/-- Every node of the list has all that point to it further back. -/
def Topo (G : List (List Nat)) : List Nat → Prop
  | [] => True
  | t :: T => (∀ u, t ∈ row G u → u ∈ T) ∧ Topo G T
/-- Every node of the list has all its heads further back. -/
def Opot (G : List (List Nat)) : List Nat → Prop
  | [] => True
  | t :: T => (∀ v ∈ row G t, v ∈ T) ∧ Opot G T
theorem row_lt {G : List (List Nat)} {u v : Nat} (h : v ∈ row G u) : u < G.length := by
  rcases Nat.lt_or_ge u G.length with h' | h'
  · exact h'
  · unfold row at h
    rw [List.getD_eq_getElem?_getD, List.getElem?_eq_none h'] at h
    cases h
theorem topo_none {G : List (List Nat)} {C : List Nat} (hC : ∀ c ∈ C, ∃ p ∈ C, c ∈ row G p) : ∀ T, Topo G T → ∀ c ∈ C, c ∉ T
  | [], _, _, _ => by simp
  | t :: T, hT, c, hc => by
    intro h
    rcases List.mem_cons.1 h with h | h
    · subst h
      obtain ⟨p, hp, he⟩ := hC c hc
      exact topo_none hC T hT.2 p hp (hT.1 p he)
    · exact topo_none hC T hT.2 c hc h
theorem topo_no_knot {G : List (List Nat)} {T : List Nat} (hT : Topo G T) (hall : ∀ u v, v ∈ row G u → v ∈ T) : ¬ Knot G := by
  rintro ⟨C, hne, hC⟩
  cases C with
  | nil => exact hne rfl
  | cons c C =>
    obtain ⟨p, hp, he⟩ := hC c (List.mem_cons_self ..)
    exact topo_none hC T hT c (List.mem_cons_self ..) (hall p c he)
theorem opot_mem {G : List (List Nat)} {u v : Nat} (hv : v ∈ row G u) : ∀ D, Opot G D → u ∈ D → v ∈ D
  | [], _, h => by cases h
  | d :: D, hD, h => by
    rcases List.mem_cons.1 h with h | h
    · subst h; exact List.mem_cons_of_mem _ (hD.1 v hv)
    · exact List.mem_cons_of_mem _ (opot_mem hv D hD.2 h)
theorem opot_none {G : List (List Nat)} {C : List Nat} (hC : ∀ c ∈ C, ∃ p ∈ C, c ∈ row G p) : ∀ D, D.Nodup → Opot G D → (∀ c ∈ C, c ∈ D) → C = []
  | [], _, _, h => by
    cases C with
    | nil => rfl
    | cons c C => exact absurd (h c (List.mem_cons_self ..)) (by simp)
  | d :: D, hn, hD, h => by
    rw [List.nodup_cons] at hn
    refine opot_none hC D hn.2 hD.2 (fun c hc => ?_)
    rcases List.mem_cons.1 (h c hc) with e | e
    · subst e
      exfalso
      obtain ⟨p, hp, he⟩ := hC c hc
      rcases List.mem_cons.1 (h p hp) with e | e
      · subst e; exact hn.1 (hD.1 p he)
      · exact hn.1 (opot_mem he D hD.2 e)
    · exact e
theorem opot_no_knot {G : List (List Nat)} {D : List Nat} (hn : D.Nodup) (hD : Opot G D) (hall : ∀ u, u < G.length → u ∈ D) (hr : ∀ u v, v ∈ row G u → v < G.length) : ¬ Knot G := by
  rintro ⟨C, hne, hC⟩
  refine hne (opot_none hC D hn hD (fun c hc => ?_))
  obtain ⟨p, _, he⟩ := hC c hc
  exact hall c (hr p c he)

/-! ### Taking away the free nodes -/
/-- How many edges lead from the nodes of the list into v. -/
def into (G : List (List Nat)) (T : List Nat) (v : Nat) : Nat := (T.map fun u => (row G u).count v).sum
theorem into_cons (G : List (List Nat)) (t : Nat) (T : List Nat) (v : Nat) : into G (t :: T) v = (row G t).count v + into G T v := by
  unfold into; rw [List.map_cons, List.sum_cons]
theorem into_succ (G : List (List Nat)) (k v : Nat) : into G (List.range (k + 1)) v = into G (List.range k) v + (row G k).count v := by
  unfold into; rw [List.range_succ, List.map_append, List.sum_append]; simp
theorem into_le (G : List (List Nat)) (v : Nat) (M : Nat) (h : ∀ u, (row G u).length ≤ M) : ∀ k, into G (List.range k) v ≤ k * M
  | 0 => Nat.zero_le _
  | k + 1 => by
    rw [into_succ, Nat.add_mul]
    have := into_le G v M h k
    have := h k
    have := List.count_le_length (a := v) (l := row G k)
    omega
theorem count_take (l : List Nat) (j v : Nat) (h : j < l.length) : (l.take (j + 1)).count v = (l.take j).count v + (if l.getD j 0 = v then 1 else 0) := by
  rw [List.take_succ_eq_append_getElem h, List.count_append, List.getD_eq_getElem?_getD, List.getElem?_eq_getElem h, List.count_singleton]
  simp

/-- Where the taking away stands: I counts what still leads in, F is free, T is taken. -/
structure Kahn (G : List (List Nat)) (I : Nat → Nat) (F T : List Nat) : Prop where
  sum : ∀ v, v < G.length → I v + into G T v = into G (List.range G.length) v
  nodup : (T ++ F).Nodup
  lt : ∀ v, v ∈ T ++ F → v < G.length
  free : ∀ v, v < G.length → (v ∈ T ++ F ↔ I v = 0)
  topo : Topo G T

/-- .. inside the taking away of node x, of whose heads the first j are done. -/
structure KahnIn (G : List (List Nat)) (I : Nat → Nat) (F T : List Nat) (x j : Nat) : Prop where
  sum : ∀ v, v < G.length → I v + into G T v + ((row G x).take j).count v = into G (List.range G.length) v
  node : x < G.length
  nodup : (x :: T ++ F).Nodup
  lt : ∀ v, v ∈ x :: T ++ F → v < G.length
  free : ∀ v, v < G.length → (v ∈ x :: T ++ F ↔ I v = 0)
  topo : Topo G (x :: T)

/-- All that lead into a node with count 0 are taken. -/
theorem Kahn.pred {G : List (List Nat)} {I : Nat → Nat} {F T : List Nat} (h : Kahn G I F T) {v u : Nat} (hv : v < G.length) (h0 : I v = 0) (hu : v ∈ row G u) : u ∈ T := by
  have hlt := row_lt hu
  by_cases hT : u ∈ T
  · exact hT
  · exfalso
    have hn : (u :: T).Nodup := List.nodup_cons.2 ⟨hT, (List.nodup_append.1 h.nodup).1⟩
    have h1 := sum_sub (fun u => (row G u).count v) (u :: T) (List.range G.length) hn (fun x hx => by
      rw [List.mem_range]
      rcases List.mem_cons.1 hx with e | e
      · rw [e]; exact hlt
      · exact h.lt x (List.mem_append_left _ e))
    have h2 := h.sum v hv
    have h3 := into_cons G u T v
    have h4 : 0 < (row G u).count v := List.count_pos_iff.2 hu
    unfold into at h2 h3
    omega

theorem Kahn.enter {G : List (List Nat)} {I : Nat → Nat} {F T : List Nat} {x : Nat} (h : Kahn G I (F ++ [x]) T) : KahnIn G I F T x 0 := by
  have hx : x < G.length := h.lt x (by simp)
  have hp : (x :: T ++ F).Perm (T ++ (F ++ [x])) := by
    have h1 : (x :: T ++ F).Perm ((T ++ F) ++ [x]) := by
      rw [List.cons_append]
      exact (List.perm_append_singleton x (T ++ F)).symm
    rw [← List.append_assoc]; exact h1
  refine ⟨fun v hv => ?_, hx, hp.nodup_iff.2 h.nodup, fun v hv => h.lt v (hp.mem_iff.1 hv), fun v hv => (hp.mem_iff).trans (h.free v hv), ?_, h.topo⟩
  · have := h.sum v hv
    rw [List.take_zero, List.count_nil]; omega
  · intro u hu
    exact h.pred hx ((h.free x hx).1 (by simp)) hu

theorem KahnIn.leave {G : List (List Nat)} {I : Nat → Nat} {F T : List Nat} {x : Nat} (h : KahnIn G I F T x (row G x).length) : Kahn G I F (x :: T) := by
  refine ⟨fun v hv => ?_, h.nodup, h.lt, h.free, h.topo⟩
  have := h.sum v hv
  rw [List.take_length] at this
  rw [into_cons]; omega

/-- Before head y is done, something leads into it. -/
theorem KahnIn.pos {G : List (List Nat)} {I : Nat → Nat} {F T : List Nat} {x j : Nat} (h : KahnIn G I F T x j) (hj : j < (row G x).length) (hy : (row G x).getD j 0 < G.length) : 0 < I ((row G x).getD j 0) := by
  obtain ⟨y, hy0⟩ : ∃ y, y = (row G x).getD j 0 := ⟨_, rfl⟩
  rw [← hy0] at hy ⊢
  have h1 := h.sum y hy
  have h2 := count_take (row G x) j y hj
  rw [← hy0, if_pos rfl] at h2
  have h3 : ((row G x).take (j + 1)).count y ≤ (row G x).count y := (List.take_sublist _ _).count_le y
  have h4 := sum_sub (fun u => (row G u).count y) (x :: T) (List.range G.length) (List.nodup_append.1 h.nodup).1 (fun u hu => List.mem_range.2 (h.lt u (List.mem_append_left _ hu)))
  have h5 := into_cons G x T y
  unfold into at h1 h5
  omega

/-- One head done: no longer free but for the count. -/
theorem KahnIn.step {G : List (List Nat)} {I I' : Nat → Nat} {F F' T : List Nat} {x j y : Nat} (h : KahnIn G I F T x j) (hj : j < (row G x).length) (hy : y = (row G x).getD j 0) (hyl : y < G.length)
    (hI : ∀ v, v < G.length → I' v = if v = y then I y - 1 else I v) (hF : F' = if I y - 1 = 0 then F ++ [y] else F) : KahnIn G I' F' T x (j + 1) := by
  have hpos : 0 < I y := by rw [hy]; exact h.pos hj (by rw [← hy]; exact hyl)
  have hnot : y ∉ x :: T ++ F := fun hm => by have := (h.free y hyl).1 hm; omega
  have hsum : ∀ v, v < G.length → I' v + into G T v + ((row G x).take (j + 1)).count v = into G (List.range G.length) v := fun v hv => by
    have h1 := h.sum v hv
    rw [count_take _ _ _ hj, ← hy, hI v hv]
    by_cases e : v = y
    · subst e; rw [if_pos rfl, if_pos rfl]; omega
    · rw [if_neg e, if_neg (fun e' => e e'.symm)]; omega
  by_cases h0 : I y - 1 = 0
  · rw [if_pos h0] at hF
    subst hF
    have hp : (x :: T ++ (F ++ [y])).Perm (y :: (x :: T ++ F)) := by
      rw [← List.append_assoc]; exact List.perm_append_singleton y _
    refine ⟨hsum, h.node, hp.nodup_iff.2 (List.nodup_cons.2 ⟨hnot, h.nodup⟩), fun v hv => ?_, fun v hv => ?_, h.topo⟩
    · rcases List.mem_cons.1 (hp.mem_iff.1 hv) with e | e
      · rw [e]; exact hyl
      · exact h.lt v e
    · rw [hp.mem_iff, List.mem_cons, hI v hv]
      by_cases e : v = y
      · simp [e, h0]
      · rw [if_neg e, ← h.free v hv]; simp [e]
  · rw [if_neg h0] at hF
    subst hF
    refine ⟨hsum, h.node, h.nodup, h.lt, fun v hv => ?_, h.topo⟩
    rw [hI v hv]
    by_cases e : v = y
    · subst e; rw [if_pos rfl]; exact ⟨fun hm => absurd hm hnot, fun hm => absurd hm h0⟩
    · rw [if_neg e]; exact h.free v hv

/-- When nothing is free, what is left is a knot. -/
theorem Kahn.done {G : List (List Nat)} {I : Nat → Nat} {T : List Nat} (h : Kahn G I [] T) (hr : ∀ u v, v ∈ row G u → v < G.length) : T.length < G.length ↔ Knot G := by
  have hnd : T.Nodup := by have := h.nodup; rwa [List.append_nil] at this
  have hlt : ∀ v ∈ T, v < G.length := fun v hv => h.lt v (by rw [List.append_nil]; exact hv)
  constructor
  · intro hl
    refine ⟨(List.range G.length).filter (fun v => decide (v ∉ T)), ?_, fun c hc => ?_⟩
    · intro e
      rw [List.filter_eq_nil_iff] at e
      have := nodup_len (l := List.range G.length) (m := T) List.nodup_range (fun x hx => by have := e x hx; simpa using this)
      rw [List.length_range] at this
      omega
    · rw [List.mem_filter, List.mem_range] at hc
      have hcT : c ∉ T := by simpa using hc.2
      have hpos : I c ≠ 0 := fun e => hcT (by have := (h.free c hc.1).2 e; rwa [List.append_nil] at this)
      by_cases hex : ∃ p, p < G.length ∧ p ∉ T ∧ c ∈ row G p
      · obtain ⟨p, h1, h2, h3⟩ := hex
        exact ⟨p, by rw [List.mem_filter, List.mem_range]; exact ⟨h1, by simpa using h2⟩, h3⟩
      · exfalso
        have h1 := sum_zero_out (fun u => (row G u).count c) (List.range G.length) T List.nodup_range (fun u hu => by
          by_cases hT : u ∈ T
          · exact .inl hT
          · right
            exact List.count_eq_zero.2 (fun hm => hex ⟨u, List.mem_range.1 hu, hT, hm⟩))
        have h2 := h.sum c hc.1
        unfold into at h2
        omega
  · intro hk
    rcases Nat.lt_or_ge T.length G.length with h' | h'
    · exact h'
    · exfalso
      refine topo_no_knot h.topo (fun u v hv => ?_) hk
      have hvl := hr u v hv
      by_cases hT : v ∈ T
      · exact hT
      · exfalso
        have := nodup_le (l := v :: T) (n := G.length) (List.nodup_cons.2 ⟨hT, hnd⟩) (fun x hx => by
          rcases List.mem_cons.1 hx with e | e
          · rw [e]; exact hvl
          · exact hlt x e)
        rw [List.length_cons] at this
        omega
end Go.Proofs.Qxb6602375a.Hc
