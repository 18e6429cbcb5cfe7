import Derived.Test.Qxb6602375aHc2
namespace Go.Proofs.Qxb6602375a.Hc

/-! ### The search in depth -/
/-- The stack, its top first: each node with the number of its heads that are done; x is the node above. -/
def Chain (G : List (List Nat)) (D : List Nat) : Option Nat → List (Nat × Nat) → Prop
  | _, [] => True
  | x, p :: K => (∀ j, j < p.2 → (row G p.1).getD j 0 ∈ D ∨ some ((row G p.1).getD j 0) = x) ∧ p.2 ≤ (row G p.1).length ∧ (∀ y, x = some y → y ∈ row G p.1) ∧ Chain G D (some p.1) K
theorem Chain.more {G : List (List Nat)} {D D' : List Nat} (hD : ∀ d ∈ D, d ∈ D') : ∀ (K : List (Nat × Nat)) (x : Option Nat), Chain G D x K → Chain G D' x K
  | [], _, _ => trivial
  | _ :: K, _, h => ⟨fun j hj => (by rcases h.1 j hj with e | e; exact .inl (hD _ e); exact .inr e), h.2.1, h.2.2.1, Chain.more hD K _ h.2.2.2⟩
/-- Done is what was above. -/
theorem Chain.pop {G : List (List Nat)} {D D' : List Nat} {u : Nat} (hD : ∀ d ∈ D, d ∈ D') (hu : u ∈ D') : ∀ (K : List (Nat × Nat)), Chain G D (some u) K → Chain G D' none K
  | [], _ => trivial
  | p :: K, h => ⟨fun j hj => by
      rcases h.1 j hj with h | h
      · exact .inl (hD _ h)
      · left
        have : (row G p.1).getD j 0 = u := by simpa using h
        rw [this]; exact hu, h.2.1, fun y hy => (by cases hy), Chain.more hD K _ h.2.2.2⟩
/-- From the top down to v. -/
theorem Chain.down {G : List (List Nat)} {D : List Nat} {v : Nat} : ∀ (K : List (Nat × Nat)) (p : Nat × Nat) (x : Option Nat), Chain G D x (p :: K) → v ∈ (p :: K).map Prod.fst →
    ∃ C : List Nat, p.1 ∈ C ∧ v ∈ C ∧ ∀ c ∈ C, c = v ∨ ∃ q ∈ C, c ∈ row G q
  | K, p, x, h, hv => by
    by_cases e : p.1 = v
    · exact ⟨[p.1], by simp, by simp [e], fun c hc => by left; rw [List.mem_singleton] at hc; rw [hc, e]⟩
    · cases K with
      | nil => simp at hv; exact absurd hv.symm e
      | cons q K =>
        have hv' : v ∈ (q :: K).map Prod.fst := by
          rw [List.map_cons, List.mem_cons] at hv
          rcases hv with h | h
          · exact absurd h.symm e
          · exact h
        obtain ⟨C, h1, h2, h3⟩ := Chain.down K q _ h.2.2.2 hv'
        refine ⟨p.1 :: C, List.mem_cons_self .., List.mem_cons_of_mem _ h2, fun c hc => ?_⟩
        rcases List.mem_cons.1 hc with e' | e'
        · subst e'
          exact .inr ⟨q.1, List.mem_cons_of_mem _ h1, h.2.2.2.2.2.1 _ rfl⟩
        · rcases h3 c e' with h | ⟨r, hr, hc⟩
          · exact .inl h
          · exact .inr ⟨r, List.mem_cons_of_mem _ hr, hc⟩

/-- How many steps it has made. -/
def steps (G : List (List Nat)) (K : List (Nat × Nat)) (D : List Nat) : Nat := (D.map fun u => (row G u).length + 1).sum + (K.map Prod.snd).sum
/-- At most so many will it make. -/
def total (G : List (List Nat)) : Nat := ((List.range G.length).map fun u => (row G u).length + 1).sum

/-- Where the search stands: col the colours, K the stack, D what is done. -/
structure Dfs (G : List (List Nat)) (col : Nat → Nat) (K : List (Nat × Nat)) (D : List Nat) : Prop where
  lt : ∀ v, v ∈ K.map Prod.fst ++ D → v < G.length
  nodup : (K.map Prod.fst ++ D).Nodup
  one : ∀ v, v < G.length → (v ∈ K.map Prod.fst ↔ col v = 1)
  two : ∀ v, v < G.length → (v ∈ D ↔ col v = 2)
  some : ∀ v, v < G.length → col v ≤ 2
  chain : Chain G D none K
  opot : Opot G D

theorem Chain.bound {G : List (List Nat)} {D : List Nat} : ∀ (K : List (Nat × Nat)) (x : Option Nat), Chain G D x K → (K.map Prod.snd).sum ≤ ((K.map Prod.fst).map fun u => (row G u).length + 1).sum
  | [], _, _ => Nat.le_refl _
  | p :: K, x, h => by
    have := Chain.bound K _ h.2.2.2
    have := h.2.1
    simp only [List.map_cons, List.sum_cons]
    omega
theorem Dfs.le {G : List (List Nat)} {col : Nat → Nat} {K : List (Nat × Nat)} {D : List Nat} (h : Dfs G col K D) : steps G K D ≤ total G := by
  have h1 := sum_sub (fun u => (row G u).length + 1) _ (List.range G.length) h.nodup (fun x hx => List.mem_range.2 (h.lt x hx))
  rw [List.map_append, List.sum_append] at h1
  have h2 := Chain.bound K none h.chain
  unfold steps total
  omega
theorem Dfs.stack {G : List (List Nat)} {col : Nat → Nat} {K : List (Nat × Nat)} {D : List Nat} (h : Dfs G col K D) : K.length ≤ G.length := by
  have := nodup_le (l := K.map Prod.fst) (n := G.length) (List.nodup_append.1 h.nodup).1 (fun x hx => h.lt x (List.mem_append_left _ hx))
  rwa [List.length_map] at this

/-- A node that has not been seen is laid on top. -/
theorem Dfs.push {G : List (List Nat)} {col col' : Nat → Nat} {K : List (Nat × Nat)} {D : List Nat} {v : Nat} (h : Dfs G col K D) (hv : v < G.length) (h0 : col v = 0) (hc : ∀ x, x < G.length → col' x = if x = v then 1 else col x)
    (hch : Chain G D none ((v, 0) :: K)) : Dfs G col' ((v, 0) :: K) D := by
  have hnK : v ∉ K.map Prod.fst := fun hm => by have := (h.one v hv).1 hm; omega
  have hnD : v ∉ D := fun hm => by have := (h.two v hv).1 hm; omega
  refine ⟨fun x hx => ?_, ?_, fun x hx => ?_, fun x hx => ?_, fun x hx => ?_, hch, h.opot⟩
  · rw [List.map_cons, List.cons_append, List.mem_cons] at hx
    rcases hx with e | e
    · rw [e]; exact hv
    · exact h.lt x e
  · rw [List.map_cons, List.cons_append, List.nodup_cons]
    exact ⟨by rw [List.mem_append]; rintro (hm | hm); exact hnK hm; exact hnD hm, h.nodup⟩
  · rw [List.map_cons, List.mem_cons, hc x hx]
    by_cases e : x = v
    · simp [e]
    · rw [if_neg e, ← h.one x hx]; simp [e]
  · rw [hc x hx]
    by_cases e : x = v
    · subst e; rw [if_pos rfl]; exact ⟨fun hm => absurd hm hnD, fun e => by omega⟩
    · rw [if_neg e]; exact h.two x hx
  · rw [hc x hx]
    by_cases e : x = v
    · rw [if_pos e]; omega
    · rw [if_neg e]; exact h.some x hx
/-- One head of the top node is looked at: it is done. -/
theorem Dfs.skip {G : List (List Nat)} {col : Nat → Nat} {K : List (Nat × Nat)} {D : List Nat} {u e : Nat} (h : Dfs G col ((u, e) :: K) D) (he : e < (row G u).length) (hv : (row G u).getD e 0 ∈ D) : Dfs G col ((u, e + 1) :: K) D := by
  refine ⟨h.lt, h.nodup, h.one, h.two, h.some, ⟨fun j hj => ?_, he, h.chain.2.2.1, h.chain.2.2.2⟩, h.opot⟩
  by_cases ej : j = e
  · subst ej; exact .inl hv
  · exact h.chain.1 j (by show j < e; have : j < e + 1 := hj; omega)
/-- One head of the top node is new: it is laid on top. -/
theorem Dfs.go {G : List (List Nat)} {col col' : Nat → Nat} {K : List (Nat × Nat)} {D : List Nat} {u e v : Nat} (h : Dfs G col ((u, e) :: K) D) (he : e < (row G u).length) (hv : v = (row G u).getD e 0) (hvl : v < G.length) (h0 : col v = 0)
    (hc : ∀ x, x < G.length → col' x = if x = v then 1 else col x) : Dfs G col' ((v, 0) :: (u, e + 1) :: K) D := by
  have hmem : v ∈ row G u := by
    rw [hv, List.getD_eq_getElem?_getD, List.getElem?_eq_getElem he]; exact List.getElem_mem he
  have h' := Dfs.push (K := (u, e) :: K) (v := v) h hvl h0 hc ⟨fun j hj => absurd hj (Nat.not_lt_zero _), Nat.zero_le _, fun y hy => (by cases hy), fun j hj => (by rcases h.chain.1 j hj with e | e; exact .inl e; cases e), h.chain.2.1, fun y hy => (by cases hy; exact hmem), h.chain.2.2.2⟩
  refine ⟨h'.lt, h'.nodup, h'.one, h'.two, h'.some, ⟨fun j hj => absurd hj (Nat.not_lt_zero _), Nat.zero_le _, fun y hy => (by cases hy), fun j hj => ?_, he, fun y hy => (by cases hy; exact hmem), h.chain.2.2.2⟩, h.opot⟩
  by_cases ej : j = e
  · subst ej; right; rw [hv]
  · rcases h.chain.1 j (by show j < e; have : j < e + 1 := hj; omega) with h | h
    · exact .inl h
    · cases h
/-- The top node is done. -/
theorem Dfs.pop {G : List (List Nat)} {col col' : Nat → Nat} {K : List (Nat × Nat)} {D : List Nat} {u e : Nat} (h : Dfs G col ((u, e) :: K) D) (he : ¬ e < (row G u).length)
    (hc : ∀ x, x < G.length → col' x = if x = u then 2 else col x) : Dfs G col' K (u :: D) := by
  have hp : (K.map Prod.fst ++ u :: D).Perm (((u, e) :: K).map Prod.fst ++ D) := List.perm_middle
  have hul : u < G.length := h.lt u (by simp)
  have hnd := h.nodup
  rw [List.map_cons, List.cons_append, List.nodup_cons] at hnd
  refine ⟨fun v hv => h.lt v (hp.mem_iff.1 hv), hp.nodup_iff.2 h.nodup, fun x hx => ?_, fun x hx => ?_, fun x hx => ?_, Chain.pop (fun d hd => List.mem_cons_of_mem _ hd) (List.mem_cons_self ..) K h.chain.2.2.2, fun v hv => ?_, h.opot⟩
  · rw [hc x hx]
    by_cases e : x = u
    · subst e; rw [if_pos rfl]; exact ⟨fun hm => absurd (List.mem_append_left _ hm) hnd.1, fun e => by omega⟩
    · rw [if_neg e, ← h.one x hx, List.map_cons, List.mem_cons]; simp [e]
  · rw [hc x hx, List.mem_cons]
    by_cases e : x = u
    · simp [e]
    · rw [if_neg e, ← h.two x hx]; simp [e]
  · rw [hc x hx]
    by_cases e : x = u
    · rw [if_pos e]; omega
    · rw [if_neg e]; exact h.some x hx
  · obtain ⟨j, hj, rfl⟩ := List.getElem_of_mem hv
    have h1 := h.chain.1 j (by show j < e; have : j < (row G u).length := hj; omega)
    rcases h1 with h1 | h1
    · rw [List.getD_eq_getElem?_getD, List.getElem?_eq_getElem hj] at h1; exact h1
    · cases h1
/-- An edge back to the stack closes a knot. -/
theorem Dfs.knot {G : List (List Nat)} {col : Nat → Nat} {K : List (Nat × Nat)} {D : List Nat} {u e : Nat} (h : Dfs G col ((u, e) :: K) D) (he : e < (row G u).length) (hv : (row G u).getD e 0 < G.length) (h1 : col ((row G u).getD e 0) = 1) : Knot G := by
  obtain ⟨v, hv0⟩ : ∃ v, v = (row G u).getD e 0 := ⟨_, rfl⟩
  have hmem : v ∈ row G u := by
    rw [hv0, List.getD_eq_getElem?_getD, List.getElem?_eq_getElem he]; exact List.getElem_mem he
  rw [← hv0] at hv h1
  obtain ⟨C, hu, hvC, hC⟩ := Chain.down K (u, e) none h.chain ((h.one v hv).2 h1)
  refine ⟨C, fun e => (by rw [e] at hu; cases hu), fun c hc => ?_⟩
  rcases hC c hc with e | e
  · subst e; exact ⟨u, hu, hmem⟩
  · exact e
/-- All done: no knot. -/
theorem Dfs.none {G : List (List Nat)} {col : Nat → Nat} {D : List Nat} (h : Dfs G col [] D) (hall : ∀ v, v < G.length → col v ≠ 0) (hr : ∀ u v, v ∈ row G u → v < G.length) : ¬ Knot G := by
  refine opot_no_knot (D := D) (by simpa using h.nodup) h.opot (fun u hu => ?_) hr
  have h1 := h.some u hu
  have h2 := hall u hu
  have h3 : col u ≠ 1 := fun e => by have := (h.one u hu).2 e; simp at this
  exact (h.two u hu).2 (by omega)
/-- The least number of which p holds. -/
def Least (p : Nat → Prop) (m : Nat) : Prop := p m ∧ ∀ k, k < m → ¬ p k
theorem least_of (p : Nat → Prop) : ∀ m, p m → ∃ k, k ≤ m ∧ Least p k
  | m, h => by
    by_cases hex : ∃ k, k < m ∧ p k
    · obtain ⟨k, hk, hp⟩ := hex
      obtain ⟨j, hj, hL⟩ := least_of p k hp
      exact ⟨j, by omega, hL⟩
    · exact ⟨m, Nat.le_refl _, h, fun k hk hp => hex ⟨k, hk, hp⟩⟩
theorem Least.uniq {p : Nat → Prop} {a b : Nat} (ha : Least p a) (hb : Least p b) : a = b := by
  rcases Nat.lt_trichotomy a b with h | h | h
  · exact absurd ha.1 (hb.2 a h)
  · exact h
  · exact absurd hb.1 (ha.2 b h)
open Classical in
theorem least_fun : ∃ L : (Nat → Prop) → Nat, ∀ p, (∃ m, p m) → Least p (L p) :=
  ⟨fun p => if h : ∃ k, Least p k then Classical.choose h else 0, fun p h => by
    obtain ⟨m, hm⟩ := h
    obtain ⟨k, _, hk⟩ := least_of p m hm
    have hex : ∃ k, Least p k := ⟨k, hk⟩
    simp only [hex, dif_pos]
    exact Classical.choose_spec hex⟩
theorem Dfs.start (G : List (List Nat)) : Dfs G (fun _ => 0) [] [] :=
  ⟨fun v hv => by simp at hv, List.nodup_nil, fun v _ => by simp, fun v _ => by simp, fun v _ => by omega, trivial, trivial⟩

end Go.Proofs.Qxb6602375a.Hc
