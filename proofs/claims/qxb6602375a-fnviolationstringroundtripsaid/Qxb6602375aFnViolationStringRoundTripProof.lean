/- The law FnViolationStringRoundTrip, proved. -/
import Derived.Test.Qxb6602375aRows
import Derived.Test.Qxb6602375aVs2
import Derived.WalkKit
import Derived.ProofKit
import Derived.OpenShut
import Derived.ShutString
namespace Go.Proofs.Qxb6602375a.fnViolationStringRoundTrip
open Go.ChangeShapes Go.WideShapes Go.ChangeAt Go.RowKit
open Go.ChangeMaps (open_string shut_string)
set_option linter.unusedVariables false      -- a walk need not use every 'w<i>' (that an integer argument fits its kind)

theorem own : ownKnob Try.prog.godebug = none := by kernel_rfl

/-! ### STEP 1: THE WALK -/
open Go.Proofs.Qxb6602375a.Vs in
set_option maxRecDepth 100000 in
set_option maxHeartbeats 2000000 in
theorem walk (a0 : ByteArray) (a1 : ByteArray) (a2 : ByteArray) (w0 : a0.size ≤ maxLen) (w1 : a1.size ≤ maxLen) (w2 : a2.size ≤ maxLen) (w : World) :
    Calls Try.prog 7 #[.string a0, .string a1, .string a2] w fun e w' => e = .returned (.bool true) ∧ Grown w w' := by
  have B := bytes24 a0 a1 a2 w w0 w1 w2
  unfold maxLen at w0 w1 w2
  go_enter Try.func7, Try.ntmps7
  go_wp2_with fail
  refine B.mono ?_
  clear B
  rintro e w' ⟨⟨r, rfl⟩, rfl⟩
  cases r
  · go_wp2
    go_ret
    exact ⟨rfl, Grown.refl _⟩
  · by_cases q0 : a0.size ≤ 262144
    · have q0' : ¬ (262144 : Int) < (a0.size : Int) := by omega
      by_cases q1 : a1.size ≤ 262144
      · have q1' : ¬ (262144 : Int) < (a1.size : Int) := by omega
        by_cases q2 : a2.size ≤ 262144
        · have q2' : ¬ (262144 : Int) < (a2.size : Int) := by omega
          obtain ⟨o, ho⟩ : ∃ o, (a0.toList == [111, 114, 100, 101, 114]) = o := ⟨_, rfl⟩
          cases o
          · go_wp2_with fail
            refine (space25 a0 w q0).mono ?_
            rintro e w' ⟨rfl, rfl⟩
            obtain ⟨s0, hs0⟩ : ∃ s0, hasTo a0 a0.size = s0 := ⟨_, rfl⟩
            rw [hs0]
            cases s0
            · go_wp2_with fail
              refine (space25 a1 w q1).mono ?_
              rintro e w' ⟨rfl, rfl⟩
              obtain ⟨s1, hs1⟩ : ∃ s1, hasTo a1 a1.size = s1 := ⟨_, rfl⟩
              rw [hs1]
              cases s1
              · go_wp2_with fail
                refine (string26 a0 a1 a2 w q0 q1 q2 ho).mono ?_
                rintro e w' ⟨rfl, rfl⟩
                go_wp2_with fail
                refine (split_line a0 a1 a2 _ q0 q1 q2 hs0 hs1).mono ?_
                rintro e w' ⟨rfl, nq, rfl⟩
                go_wp2
                go_ret
                exact ⟨rfl, by apply Grown.drew; apply Grown.alloc; exact Grown.refl _⟩
              · go_wp2
                go_ret
                exact ⟨rfl, Grown.refl _⟩
            · go_wp2
              go_ret
              exact ⟨rfl, Grown.refl _⟩
          · go_wp2
            go_ret
            exact ⟨rfl, Grown.refl _⟩
        · have q2' : (262144 : Int) < (a2.size : Int) := by omega
          go_wp2
          go_ret
          exact ⟨rfl, Grown.refl _⟩
      · have q1' : (262144 : Int) < (a1.size : Int) := by omega
        go_wp2
        go_ret
        exact ⟨rfl, Grown.refl _⟩
    · have q0' : (262144 : Int) < (a0.size : Int) := by omega
      go_wp2
      go_ret
      exact ⟨rfl, Grown.refl _⟩

/-! ### THE ROW's STEP: WRITTEN OUT: LEAVE IT -/
set_option maxRecDepth 100000 in
theorem lifted (os : Os) (started : os.Started) (H : Type) (enc : TypeId × Value → H) :
    ReturnsInHanded {} Try.checked os 7 .any (Rows.fnViolationStringRoundTripSpec.pre6 enc Try.prog Try.f7 Rows.fnViolationStringRoundTripRow.domain false) (Rows.fnViolationStringRoundTripSpec.post enc Try.prog Try.f7 false true false false) := by
  refine returnsInHanded_of_change (C := Try.checked) own started (by kernel_rfl) Try.func7
    (ChangeSpec.witness6 (enc := enc) (C := Try.checked) false ⟨#[], #[.string ByteArray.empty, .string ByteArray.empty, .string ByteArray.empty], []⟩ 8 (by kernel_rfl) (by kernel_rfl) (by kernel_rfl) (by kernel_rfl)) ?_
  intro W base args ds gs before hval0 hW hcnd _
  have hval : ∀ (j : Nat) t v, Try.f7.params[j]? = some t → args[j]? = some v → Value.okWide Try.prog W .any base t v := hval0
  have hW' := hW
  obtain ⟨p, q, hA0, hV, rfl, hfz, hnd⟩ := hW
  have hA : DataW.TrodAll enc Try.prog W 0 (fun _ => true) true Try.f7.params.toList args.toList ds p := hA0
  rw [Try.params7] at hA hval
  obtain ⟨v0, vs0, d0, ds0, p0, q0, hargs, rfl, rfl, h0, r0⟩ := trodAll_cons hA
  obtain ⟨v1, vs1, d1, ds1, p1, q1, rfl, rfl, rfl, h1, r1⟩ := trodAll_cons r0
  obtain ⟨v2, vs2, d2, ds2, p2, q2, rfl, rfl, rfl, h2, r2⟩ := trodAll_cons r1
  obtain ⟨rfl, rfl, rfl⟩ := trodAll_nil r2
  obtain rfl : args = #[v0, v1, v2] := by cases args; simp_all
  obtain ⟨rfl, rfl⟩ := trodVars_none hV
  obtain ⟨a0, rfl, rfl, rfl, w0⟩ := open_string Try.underlying9 (hval 0 9 v0 rfl rfl) h0
  obtain ⟨a1, rfl, rfl, rfl, w1⟩ := open_string Try.underlying9 (hval 1 9 v1 rfl rfl) h1
  obtain ⟨a2, rfl, rfl, rfl, w2⟩ := open_string Try.underlying9 (hval 2 9 v2 rfl rfl) h2
  clear hA0 hval0
  simp only [List.append_nil] at hW'
  refine (walk a0 a1 a2 w0 w1 w2 W).mono fun e W' ⟨he, hg⟩ => ?_
  subst he
  exact ⟨_, rfl, post_of_same (pa := []) (pv := []) hW' (fun _ _ _ => (trodAll_cons_mk (shut_bool Try.underlying4 _) trodAll_mk0)) (fun sp _ => (trodAll_cons_mk (shut_string Try.underlying9 w0) (trodAll_cons_mk (shut_string Try.underlying9 w1) (trodAll_cons_mk (shut_string Try.underlying9 w2) trodAll_mk0)))) (fun _ _ => rfl) rfl
    (hg.frame _) hg.2.1 (ok_one (by kernel_rfl) rfl (okWide_bool_mk Try.underlying4 _))⟩

theorem over : Rows.fnViolationStringRoundTripRow.holds Try.pinned (OpenSpec.ofChange Rows.fnViolationStringRoundTripSpec) :=
  OpenClaim.holds_of_wide 7 Try.f7 rfl rfl rfl rfl rfl rfl rfl ⟨rfl, rfl, rfl, rfl, rfl⟩ rfl rfl rfl rfl rfl (by kernel_rfl) Try.func7 (by kernel_rfl)
    (of_decide_eq_true (by kernel_rfl)) (by unfold Func.isWrapper; first | (rw [if_pos (by decide +kernel)]; kernel_rfl) | (rw [if_neg (by decide +kernel)]; exact ⟨rfl, rfl⟩))
    (fun os started H enc _ => lifted os started H enc)

/-- ████ THE STATEMENT ████ -/
theorem proved : Rows.FnViolationStringRoundTripSaid :=
  over
end Go.Proofs.Qxb6602375a.fnViolationStringRoundTrip

namespace Go.Proofs.Qxb6602375a
theorem fnViolationStringRoundTrip_said : Rows.FnViolationStringRoundTripSaid := fnViolationStringRoundTrip.proved
end Go.Proofs.Qxb6602375a
