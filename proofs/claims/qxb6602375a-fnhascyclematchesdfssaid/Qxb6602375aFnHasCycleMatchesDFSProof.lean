/-
  A PROOF OF 'Rows.FnHasCycleMatchesDFSSaid'. The frame follows the one that proof-skeleton.mjs writes, typed for ([][]int); the walk lies in the texts Qxb6602375aHc .. Hc6.
-/
import Derived.Test.Qxb6602375aRows
import Derived.Test.Qxb6602375aHc6
import Derived.ProofKit
import Derived.OpenShut
import Derived.ChangeOld
import Derived.Deep.Slices
namespace Go.Proofs.Qxb6602375a.fnHasCycleMatchesDFS
open Go.ChangeShapes Go.WideShapes Go.ChangeAt Go.RowKit
set_option linter.unusedVariables false

theorem own : ownKnob Try.prog.godebug = none := by kernel_rfl
theorem laidOut : laidOutB Try.prog = true := by kernel_rfl

/-- What the walk is told of one row. -/
def IsRow (w : World) (v : Value) (f : Option Addr × Nat × List Int) : Prop :=
  v = .slice f.1 f.2.2.length f.2.1 ∧ f.2.2.length ≤ maxLen ∧ (0 < f.2.2.length → ∃ b o, f.1 = some ⟨b, o, none⟩ ∧ ∀ j, j < f.2.2.length → w.cell? ⟨b, o + j, none⟩ = some (.int .i64 (f.2.2.getD j 0)))

theorem isRow {H : Type} {enc : TypeId × Value → H} {W : World} {n : Nat} {v : Value} {x : DataW H × List MemPlace} (h : DataW.trod enc Try.prog W 0 (fun _ => true) true n 24 [v] = some x) : ∃ f, IsRow W v f := by
  rcases open_ints Try.underlying24 Try.underlying3 (by kernel_rfl) h with ⟨hcs, _⟩ | ⟨a, len, cap, zs, hcs, _, hl, hm, hz, _, hcell, hws⟩
  · refine ⟨(none, 0, []), by simpa using hcs, by simp, fun h => by simp at h⟩
  · have hz' : zs.length = cap := by simpa using hz
    refine ⟨(some a, cap, zs.take len), ?_, ?_, fun h0 => ?_⟩
    · have : (zs.take len).length = len := by simp; omega
      simpa [this] using hcs
    · simp; omega
    · obtain ⟨b, off, spot⟩ := a
      have hl0 : 0 < len := by simp at h0; omega
      have hspot : spot = none := by simpa [Addr.add] using World.cell?_spot (hcell 0 (by omega))
      subst hspot
      refine ⟨b, off, rfl, fun j hj => ?_⟩
      have hj' : j < len := by simp at hj; omega
      have := hcell j (by omega)
      rw [Addr.add_lit] at this
      rw [this]
      simp [hj']

/-- What the walk is told of a slice of rows that came in. -/
def IsRows (w : World) (a : Option Addr) (len cap : Nat) : Prop :=
  (a = none ∧ len = 0 ∧ cap = 0) ∨
  ∃ x, ∃ f : Nat → Option Addr × Nat × List Int, a = some x ∧ len ≤ maxLen ∧ ∀ k, k < len → ∃ v, w.cell? (x.add k) = some v ∧ IsRow w v (f k)

theorem walk (a0 : Option Addr) (len0 cap0 : Nat) (w : World) (w0 : IsRows w a0 len0 cap0) :
    Calls Try.prog 3 #[.slice a0 len0 cap0] w fun e w' => e = .returned (.bool true) ∧ Below w.heap.size w w' := by
  by_cases h0 : len0 = 0
  · subst h0; exact Hc.law3_nil a0 cap0 w
  · rcases w0 with ⟨rfl, rfl, rfl⟩ | ⟨x, f, rfl, hm, hf⟩
    · exact absurd rfl h0
    · obtain ⟨b, off, spot⟩ := x
      have hspot : spot = none := by
        obtain ⟨v, hv, _⟩ := hf 0 (by omega)
        simpa [Addr.add] using World.cell?_spot hv
      subst hspot
      have hlen : ((List.range len0).map fun k => (f k).2.2).length = len0 := by simp
      have hget : ∀ k, k < len0 → ((List.range len0).map fun k => (f k).2.2).getD k [] = (f k).2.2 := fun k hk => by simp [List.getD, hk]
      refine Hc.law3_core b off cap0 ((List.range len0).map fun k => (f k).2.2) (fun k => (f k).1) (fun k => (f k).2.1) w len0 hlen ⟨?_, ?_, ?_, ?_⟩
      · intro k hk
        rw [hlen] at hk
        rw [hget k hk]
        obtain ⟨v, hv, e, _⟩ := hf k hk
        rw [Addr.add_lit, e] at hv
        exact hv
      · intro k hk
        rw [hlen] at hk
        rw [hget k hk]
        obtain ⟨v, _, _, _, hr⟩ := hf k hk
        exact hr
      · intro k hk
        rw [hlen] at hk
        rw [hget k hk]
        obtain ⟨v, _, _, hr, _⟩ := hf k hk
        exact hr
      · rw [hlen]; exact hm

set_option maxRecDepth 100000 in
theorem lifted (os : Os) (started : os.Started) (H : Type) (enc : TypeId × Value → H) :
    ReturnsInHanded {} Try.checked os 3 .any (Rows.fnHasCycleMatchesDFSSpec.pre6 enc Try.prog Try.f3 Rows.fnHasCycleMatchesDFSRow.domain false) (Rows.fnHasCycleMatchesDFSSpec.post enc Try.prog Try.f3 false true false false) := by
  refine returnsInHanded_of_change (C := Try.checked) own started (by kernel_rfl) Try.func3
    (ChangeSpec.witness6 (enc := enc) (C := Try.checked) false ⟨#[], #[.slice none 0 0], []⟩ 8 (by kernel_rfl) (by kernel_rfl) (by kernel_rfl) (by kernel_rfl)) ?_
  intro W base args ds gs before hval0 hW hcnd _
  have hval : ∀ (j : Nat) t v, Try.f3.params[j]? = some t → args[j]? = some v → Value.okWide Try.prog W .any base t v := hval0
  have hW' := hW
  obtain ⟨p, q, hA0, hV, rfl, hfz, hnd⟩ := hW
  have hA : DataW.TrodAll enc Try.prog W 0 (fun _ => true) true Try.f3.params.toList args.toList ds p := hA0
  rw [Try.params3] at hA hval
  obtain ⟨v0, vs0, d0, ds0, p0, q0, hargs, rfl, rfl, h0, r0⟩ := trodAll_cons hA
  obtain ⟨rfl, rfl, rfl⟩ := trodAll_nil r0
  obtain rfl : args = #[v0] := by cases args; simp_all
  obtain ⟨rfl, rfl⟩ := trodVars_none hV
  obtain ⟨a0, len0, cap0, rfl⟩ := okWide_slice Try.underlying22 (hval 0 22 v0 rfl rfl)
  have k0 := h0
  have lt0 : ∀ x ∈ p0, x.block < W.heap.size := by obtain ⟨m, hm⟩ := k0; exact DataW.trod_lt m _ _ _ hm
  have w0 : IsRows W a0 len0 cap0 := by
    obtain ⟨fuel, hf⟩ := h0
    rcases Go.Deep.open_slice1 Try.underlying22 (by kernel_rfl) hf with ⟨hcs, _⟩ | ⟨x, l, c, m, n, V, D, Pl, hcs, _, hl, hm, hmm, _, hx⟩
    · simp [Value.cells] at hcs
      obtain ⟨rfl, rfl, rfl⟩ := hcs
      exact .inl ⟨rfl, rfl, rfl⟩
    · simp [Value.cells] at hcs
      obtain ⟨rfl, rfl, rfl⟩ := hcs
      have hmm' : m = cap0 := by simpa using hmm
      have hex : ∀ k, ∃ f, k < len0 → ∃ v, W.cell? (x.add k) = some v ∧ IsRow W v f := fun k => by
        by_cases hk : k < len0
        · obtain ⟨g1, g2⟩ := hx k (by omega)
          obtain ⟨f, hf⟩ := isRow g2
          exact ⟨f, fun _ => ⟨_, g1, hf⟩⟩
        · exact ⟨(none, 0, []), fun h => absurd h hk⟩
      exact .inr ⟨x, fun k => Classical.choose (hex k), rfl, by omega, fun k hk => Classical.choose_spec (hex k) hk⟩
  clear hA0 hval0
  refine (walk a0 len0 cap0 W w0).mono fun e W' ⟨he, bel⟩ => ?_
  subst he
  exact ⟨_, rfl, _, _, _, [], _, [], hW', trodAll_mk1 (shut_bool Try.underlying4 _), (trodAll_cons_mk (Below.trod laidOut (by kernel_rfl) (of_decide_eq_true (by kernel_rfl)) k0 bel lt0) trodAll_mk0), rfl, bel.frame _, fun h => by cases h⟩

theorem over : Rows.fnHasCycleMatchesDFSRow.holds Try.pinned (OpenSpec.ofChange Rows.fnHasCycleMatchesDFSSpec) :=
  OpenClaim.holds_of_wide 3 Try.f3 rfl rfl rfl rfl rfl rfl rfl ⟨rfl, rfl, rfl, rfl, rfl⟩ rfl rfl rfl rfl rfl (by kernel_rfl) Try.func3 (by kernel_rfl)
    (of_decide_eq_true (by kernel_rfl)) (by unfold Func.isWrapper; first | (rw [if_pos (by decide +kernel)]; kernel_rfl) | (rw [if_neg (by decide +kernel)]; exact ⟨rfl, rfl⟩))
    (fun os started H enc _ => lifted os started H enc)
end Go.Proofs.Qxb6602375a.fnHasCycleMatchesDFS

namespace Go.Proofs.Qxb6602375a
/-- THE CLAIM. -/
theorem fnHasCycleMatchesDFS_said : Rows.FnHasCycleMatchesDFSSaid := fnHasCycleMatchesDFS.over
end Go.Proofs.Qxb6602375a
