/-
  Seat b6617714a: the proof of 'Rows.FnSignSideOfZeroAnyScaleSaid', over the given shell (proof-skeleton.mjs): its frame as it was laid.
-/
import Derived.Test.Qxb6617714aRows
import Derived.Test.Qxb6617714aSmall
import Derived.WalkKit
import Derived.ProofKit
import Derived.OpenShut
import Derived.ShutString
namespace Go.Proofs.Qxb6617714a.fnSignSideOfZeroAnyScale
open Go.ChangeShapes Go.WideShapes Go.ChangeAt Go.RowKit
open Go.ChangeMaps (open_string shut_string)
set_option linter.unusedVariables false      -- a walk need not use every 'w<i>' (that an integer argument fits its kind)

theorem own : ownKnob Try.prog.godebug = none := by kernel_rfl

theorem side_of (c : Int) : ∃ k, Side c k ∧ Side (-c) (-k) ∧ -1 ≤ k ∧ k ≤ 1 := by
  unfold Side
  rcases (show c < 0 ∨ 0 < c ∨ c = 0 by omega) with h | h | h
  · exact ⟨-1, by omega, by omega, by omega, by omega⟩
  · exact ⟨1, by omega, by omega, by omega, by omega⟩
  · exact ⟨0, by omega, by omega, by omega, by omega⟩

set_option maxHeartbeats 800000 in
theorem walk_main (a0 a1 a2 : Int) (h0 : -9223372036854775808 < a0) (h0' : a0 ≤ 9223372036854775807) (h1 : 0 ≤ a1) (h2 : 0 ≤ a2) (w : World) :
    Calls Try.prog 3 #[.int .i64 a0, .int .i64 a1, .int .i64 a2] w fun e w' => e = .returned (.bool true) ∧ Grown w w' := by
  obtain ⟨k, s1, s2, k1, k2⟩ := side_of a0
  have S1 : Hid (Side a0 k) := s1
  have S2 : Hid (Side (-a0) (-k)) := s2
  clear s1 s2
  go_enter Try.func3, Try.ntmps3
  go_wp2_with fail
  refine (dec_any _ _ _).mono ?_
  rintro e w1 ⟨rfl, x1, rfl⟩
  go_wp2_with fail
  refine (sign_any _ _ _ S1.out _).mono ?_
  rintro e w1 ⟨rfl, x2, rfl⟩
  go_wp2_with fail
  refine (dec_any _ _ _).mono ?_
  rintro e w1 ⟨rfl, x3, rfl⟩
  go_wp2_with fail
  refine (sign_any _ _ _ S2.out _).mono ?_
  rintro e w1 ⟨rfl, x4, rfl⟩
  go_wp2_with fail
  refine (side_any _ _ S1.out _).mono ?_
  rintro e w1 ⟨rfl, rfl⟩
  go_wp2
  go_ret
  exact ⟨rfl, by repeat (first | exact Grown.refl _ | apply Grown.drew | apply Grown.alloc)⟩

set_option maxHeartbeats 400000 in
theorem walk (a0 : Int) (a1 : Int) (a2 : Int) (w0 : (Lit.int .i64 a0).wf = true) (w1 : (Lit.int .i64 a1).wf = true) (w2 : (Lit.int .i64 a2).wf = true) (w : World) :
    Calls Try.prog 3 #[.int .i64 a0, .int .i64 a1, .int .i64 a2] w fun e w' => e = .returned (.bool true) ∧ Grown w w' := by
  obtain ⟨b0, b0'⟩ := bounds_i64 w0
  clear w0 w1 w2
  by_cases h1 : a1 < 0
  · go_enter Try.func3, Try.ntmps3
    go_wp2
    go_ret
    exact ⟨rfl, Grown.refl _⟩
  · by_cases h2 : a2 < 0
    · have h1' : 0 ≤ a1 := by omega
      clear h1
      go_enter Try.func3, Try.ntmps3
      go_wp2
      go_ret
      exact ⟨rfl, Grown.refl _⟩
    · have h1' : 0 ≤ a1 := by omega
      have h2' : 0 ≤ a2 := by omega
      clear h1 h2
      by_cases h0 : a0 ≤ -9223372036854775808
      · go_enter Try.func3, Try.ntmps3
        go_wp2
        go_ret
        exact ⟨rfl, Grown.refl _⟩
      · exact walk_main a0 a1 a2 (by omega) b0' h1' h2' w

/-! ### THE ROW's STEP: WRITTEN OUT: LEAVE IT -/
set_option maxRecDepth 100000 in
theorem lifted (os : Os) (started : os.Started) (H : Type) (enc : TypeId × Value → H) :
    ReturnsInHanded {} Try.checked os 3 .any (Rows.fnSignSideOfZeroAnyScaleSpec.pre6 enc Try.prog Try.f3 Rows.fnSignSideOfZeroAnyScaleRow.domain false) (Rows.fnSignSideOfZeroAnyScaleSpec.post enc Try.prog Try.f3 false true false false) := by
  refine returnsInHanded_of_change (C := Try.checked) own started (by kernel_rfl) Try.func3
    (ChangeSpec.witness6 (enc := enc) (C := Try.checked) false ⟨#[], #[.int .i64 0, .int .i64 0, .int .i64 0], []⟩ 8 (by kernel_rfl) (by kernel_rfl) (by kernel_rfl) (by kernel_rfl)) ?_
  intro W base args ds gs before hval0 hW hcnd _
  have hval : ∀ (j : Nat) t v, Try.f3.params[j]? = some t → args[j]? = some v → Value.okWide Try.prog W .any base t v := hval0
  have hW' := hW
  obtain ⟨p, q, hA0, hV, rfl, hfz, hnd⟩ := hW
  have hA : DataW.TrodAll enc Try.prog W 0 (fun _ => true) true Try.f3.params.toList args.toList ds p := hA0
  rw [Try.params3] at hA hval
  obtain ⟨v0, vs0, d0, ds0, p0, q0, hargs, rfl, rfl, h0, r0⟩ := trodAll_cons hA
  obtain ⟨v1, vs1, d1, ds1, p1, q1, rfl, rfl, rfl, h1, r1⟩ := trodAll_cons r0
  obtain ⟨v2, vs2, d2, ds2, p2, q2, rfl, rfl, rfl, h2, r2⟩ := trodAll_cons r1
  obtain ⟨rfl, rfl, rfl⟩ := trodAll_nil r2
  obtain rfl : args = #[v0, v1, v2] := by cases args; simp_all
  obtain ⟨rfl, rfl⟩ := trodVars_none hV
  obtain ⟨a0, rfl, rfl, rfl, w0⟩ := open_int Try.underlying2 (hval 0 2 v0 rfl rfl) h0
  obtain ⟨a1, rfl, rfl, rfl, w1⟩ := open_int Try.underlying3 (hval 1 3 v1 rfl rfl) h1
  obtain ⟨a2, rfl, rfl, rfl, w2⟩ := open_int Try.underlying3 (hval 2 3 v2 rfl rfl) h2
  clear hA0 hval0
  simp only [List.append_nil] at hW'
  refine (walk a0 a1 a2 w0 w1 w2 W).mono fun e W' ⟨he, hg⟩ => ?_
  subst he
  exact ⟨_, rfl, post_of_same (pa := []) (pv := []) hW' (fun _ _ _ => (trodAll_cons_mk (shut_bool Try.underlying4 _) trodAll_mk0)) (fun sp _ => (trodAll_cons_mk (shut_int Try.underlying2 w0) (trodAll_cons_mk (shut_int Try.underlying3 w1) (trodAll_cons_mk (shut_int Try.underlying3 w2) trodAll_mk0)))) (fun _ _ => rfl) rfl
    (hg.frame _) hg.2.1 (ok_one (by kernel_rfl) rfl (okWide_bool_mk Try.underlying4 _))⟩

theorem over : Rows.fnSignSideOfZeroAnyScaleRow.holds Try.pinned (OpenSpec.ofChange Rows.fnSignSideOfZeroAnyScaleSpec) :=
  OpenClaim.holds_of_wide 3 Try.f3 rfl rfl rfl rfl rfl rfl rfl ⟨rfl, rfl, rfl, rfl, rfl⟩ rfl rfl rfl rfl rfl (by kernel_rfl) Try.func3 (by kernel_rfl)
    (of_decide_eq_true (by kernel_rfl)) (by unfold Func.isWrapper; first | (rw [if_pos (by decide +kernel)]; kernel_rfl) | (rw [if_neg (by decide +kernel)]; exact ⟨rfl, rfl⟩))
    (fun os started H enc _ => lifted os started H enc)

/-- ████ THE STATEMENT ████ -/
theorem proved : Rows.FnSignSideOfZeroAnyScaleSaid :=
  over
end Go.Proofs.Qxb6617714a.fnSignSideOfZeroAnyScale
