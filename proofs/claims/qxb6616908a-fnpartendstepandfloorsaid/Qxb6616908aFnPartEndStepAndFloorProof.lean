/-
  Seat b6616908a: the proof of 'Rows.FnPartEndStepAndFloorSaid', over the given shell (proof-skeleton.mjs): its frame as it was laid.
-/
import Derived.Test.Qxb6616908aRows
import Derived.Test.Qxb6616908aStep
import Derived.Test.Qxb6616908aPlain
import Derived.WalkKit
import Derived.ProofKit
import Derived.OpenShut
import Derived.ShutString
namespace Go.Proofs.Qxb6616908a.fnPartEndStepAndFloor
open Go.ChangeShapes Go.WideShapes Go.ChangeAt Go.RowKit
open Go.ChangeMaps (open_string shut_string)
set_option linter.unusedVariables false      -- a walk need not use every 'w<i>' (that an integer argument fits its kind)

theorem own : ownKnob Try.prog.godebug = none := by kernel_rfl

theorem grown_drewN (w : World) (q : Nat) : Grown w (w.drewN q) := Grown.refl w

/-- the law where its tests let it through -/
theorem walk_main (c p j : Nat) (hc : c < 18446744073709551616) (hpb : p < 18446744073709551616) (hp : 0 < p) (hj : j < p) (ht : (c : Int) % (p : Int) ≤ 18446744073709551615 / ((j : Int) + 1)) (w : World) :
    Calls Try.prog 3 #[.int .u64 c, .int .u64 p, .int .u64 j] w fun e w' => e = .returned (.bool true) ∧ ∃ q, w' = w.drewN q := by
  have hr := rem_mul c p j ht
  have hr0 : c % p * j < 18446744073709551616 := Nat.lt_of_le_of_lt (Nat.mul_le_mul_left _ (Nat.le_succ j)) hr
  have hA := pe_le c p j hp (by omega)
  have hB := pe_le c p (j + 1) hp hj
  obtain ⟨f1, f2⟩ := pe_floor c p j hp
  have hst := pe_step c p j hp
  have hAB : PE c p j ≤ PE c p (j + 1) := by
    generalize c / p = q at hst
    omega
  have ej : ((j : Int) + 1) = ((j + 1 : Nat) : Int) := by omega
  have ep : ((PE c p j * p % 18446744073709551616 : Nat) : Int) + (p : Int) = ((PE c p j * p % 18446744073709551616 + p : Nat) : Int) := by omega
  have e1 : ((PE c p j * p / 18446744073709551616 : Nat) : Int) + 1 = ((PE c p j * p / 18446744073709551616 + 1 : Nat) : Int) := by omega
  have htop := top (PE c p j) p (by omega) hpb
  refine step_core c p j (PE c p j) (PE c p (j + 1)) (c / p) (PE c p j * p / 18446744073709551616) (PE c p j * p % 18446744073709551616) (c * j / 18446744073709551616) (c * j % 18446744073709551616)
    (PE c p j * p / 18446744073709551616 + 1) (PE c p j * p % 18446744073709551616 + p - 18446744073709551616) hp hj hpb ht
    (fun w => zzpart_any c p j hc hp (Nat.lt_of_le_of_lt (q_le c p j (by omega)) hc) hr0 (Nat.lt_of_le_of_lt hA hc) w)
    (by rw [ej]; exact fun w => zzpart_any c p (j + 1) hc hp (Nat.lt_of_le_of_lt (q_le c p (j + 1) hj) hc) hr (Nat.lt_of_le_of_lt hB hc) w)
    (by rw [quoN]; exact wrapN _ (Nat.lt_of_le_of_lt (Nat.div_le_self c p) hc)) hAB (by omega) hst
    (fun w => mul_any (PE c p j) p (by omega) hpb w) (fun w => mul_any c j hc (by omega) w) (fun w => ?_) (Nat.mod_lt _ (by decide)) ?_ w
  · refine (le_any _ _ _ _ w).mono fun e w' ⟨he, hw⟩ => ⟨?_, hw⟩
    rw [he, le128]; simp [f1]
  · rcases Nat.lt_or_ge (PE c p j * p % 18446744073709551616 + p) 18446744073709551616 with h | h
    · refine .inl ⟨h, fun w => ?_⟩
      rw [ep]
      refine (le_any _ _ _ _ w).mono fun e w' ⟨he, hw⟩ => ⟨?_, hw⟩
      have g1 : (PE c p j * p + p) / 18446744073709551616 = PE c p j * p / 18446744073709551616 := by omega
      have g2 : (PE c p j * p + p) % 18446744073709551616 = PE c p j * p % 18446744073709551616 + p := by omega
      rw [he, ← g1, ← g2, le128]
      have : decide (PE c p j * p + p ≤ c * j) = false := by simp; omega
      rw [this]
    · refine .inr ⟨h, ?_, by omega, by omega, fun w => ?_⟩
      · rw [ep, wrapM]; omega
      · rw [e1]
        refine (le_any _ _ _ _ w).mono fun e w' ⟨he, hw⟩ => ⟨?_, hw⟩
        have g1 : (PE c p j * p + p) / 18446744073709551616 = PE c p j * p / 18446744073709551616 + 1 := by omega
        have g2 : (PE c p j * p + p) % 18446744073709551616 = PE c p j * p % 18446744073709551616 + p - 18446744073709551616 := by omega
        rw [he, ← g1, ← g2, le128]
        have : decide (PE c p j * p + p ≤ c * j) = false := by simp; omega
        rw [this]

set_option maxHeartbeats 1000000 in
theorem walk (a0 : Int) (a1 : Int) (a2 : Int) (w0 : (Lit.int .u64 a0).wf = true) (w1 : (Lit.int .u64 a1).wf = true) (w2 : (Lit.int .u64 a2).wf = true) (w : World) :
    Calls Try.prog 3 #[.int .u64 a0, .int .u64 a1, .int .u64 a2] w fun e w' => e = .returned (.bool true) ∧ Grown w w' := by
  have b0 := bounds_u64 w0
  have b1 := bounds_u64 w1
  have b2 := bounds_u64 w2
  obtain ⟨c, rfl⟩ : ∃ c : Nat, a0 = (c : Int) := ⟨a0.toNat, by omega⟩
  obtain ⟨p, rfl⟩ : ∃ p : Nat, a1 = (p : Int) := ⟨a1.toNat, by omega⟩
  obtain ⟨j, rfl⟩ : ∃ j : Nat, a2 = (j : Int) := ⟨a2.toNat, by omega⟩
  clear w0 w1 w2
  have hpb : p < 18446744073709551616 := by omega
  have hc : c < 18446744073709551616 := by omega
  clear b0 b1
  by_cases hp : 0 < p
  · have hpe : ((p : Int) == 0) = false := by simp; omega
    have hpz : ¬ (p : Int) = 0 := by omega
    by_cases hj : j < p
    · by_cases ht : (c : Int) % (p : Int) ≤ 18446744073709551615 / ((j : Int) + 1)
      · exact (walk_main c p j hc hpb hp hj ht w).mono fun e w' ⟨he, q, hw⟩ => ⟨he, by rw [hw]; exact grown_drewN w q⟩
      · have ht' : 18446744073709551615 / ((j : Int) + 1) < (c : Int) % (p : Int) := by omega
        clear ht
        go_enter Try.func3, Try.ntmps3
        go_wp2
        go_quiet (fail)
        go_wp2
        go_ret
        exact ⟨rfl, grown_drewN w _⟩
    · have hj' : p ≤ j := by omega
      clear hj
      go_enter Try.func3, Try.ntmps3
      go_wp2
      go_ret
      exact ⟨rfl, Grown.refl _⟩
  · obtain rfl : p = 0 := by omega
    clear hp
    go_enter Try.func3, Try.ntmps3
    go_wp2
    go_ret
    exact ⟨rfl, Grown.refl _⟩

/-! ### THE ROW's STEP: WRITTEN OUT: LEAVE IT -/
set_option maxRecDepth 100000 in
theorem lifted (os : Os) (started : os.Started) (H : Type) (enc : TypeId × Value → H) :
    ReturnsInHanded {} Try.checked os 3 .any (Rows.fnPartEndStepAndFloorSpec.pre6 enc Try.prog Try.f3 Rows.fnPartEndStepAndFloorRow.domain false) (Rows.fnPartEndStepAndFloorSpec.post enc Try.prog Try.f3 false true false false) := by
  refine returnsInHanded_of_change (C := Try.checked) own started (by kernel_rfl) Try.func3
    (ChangeSpec.witness6 (enc := enc) (C := Try.checked) false ⟨#[], #[.int .u64 0, .int .u64 0, .int .u64 0], []⟩ 8 (by kernel_rfl) (by kernel_rfl) (by kernel_rfl) (by kernel_rfl)) ?_
  intro W base args ds gs before hval0 hW hcnd _
  have hval : ∀ (j : Nat) t v, Try.f3.params[j]? = some t → args[j]? = some v → Value.okWide Try.prog W .any base t v := hval0
  have hW' := hW
  obtain ⟨p, q, hA0, hV, rfl, hfz, hnd⟩ := hW
  have hA : DataW.TrodAll enc Try.prog W 0 (fun _ => true) true Try.f3.params.toList args.toList ds p := hA0
  rw [Try.params3] at hA hval
  obtain ⟨v0, vs0, d0, ds0, p0, q0, hargs, rfl, rfl, h0, r0⟩ := trodAll_cons hA
  obtain ⟨v1, vs1, d1, ds1, p1, q1, rfl, rfl, rfl, h1, r1⟩ := trodAll_cons r0
  obtain ⟨v2, vs2, d2, ds2, p2, q2, rfl, rfl, rfl, h2, r2⟩ := trodAll_cons r1
  obtain ⟨rfl, rfl, rfl⟩ := trodAll_nil r2
  obtain rfl : args = #[v0, v1, v2] := by cases args; simp_all
  obtain ⟨rfl, rfl⟩ := trodVars_none hV
  obtain ⟨a0, rfl, rfl, rfl, w0⟩ := open_int Try.underlying22 (hval 0 22 v0 rfl rfl) h0
  obtain ⟨a1, rfl, rfl, rfl, w1⟩ := open_int Try.underlying22 (hval 1 22 v1 rfl rfl) h1
  obtain ⟨a2, rfl, rfl, rfl, w2⟩ := open_int Try.underlying22 (hval 2 22 v2 rfl rfl) h2
  clear hA0 hval0
  simp only [List.append_nil] at hW'
  refine (walk a0 a1 a2 w0 w1 w2 W).mono fun e W' ⟨he, hg⟩ => ?_
  subst he
  exact ⟨_, rfl, post_of_same (pa := []) (pv := []) hW' (fun _ _ _ => (trodAll_cons_mk (shut_bool Try.underlying4 _) trodAll_mk0)) (fun sp _ => (trodAll_cons_mk (shut_int Try.underlying22 w0) (trodAll_cons_mk (shut_int Try.underlying22 w1) (trodAll_cons_mk (shut_int Try.underlying22 w2) trodAll_mk0)))) (fun _ _ => rfl) rfl
    (hg.frame _) hg.2.1 (ok_one (by kernel_rfl) rfl (okWide_bool_mk Try.underlying4 _))⟩

theorem over : Rows.fnPartEndStepAndFloorRow.holds Try.pinned (OpenSpec.ofChange Rows.fnPartEndStepAndFloorSpec) :=
  OpenClaim.holds_of_wide 3 Try.f3 rfl rfl rfl rfl rfl rfl rfl ⟨rfl, rfl, rfl, rfl, rfl⟩ rfl rfl rfl rfl rfl (by kernel_rfl) Try.func3 (by kernel_rfl)
    (of_decide_eq_true (by kernel_rfl)) (by unfold Func.isWrapper; first | (rw [if_pos (by decide +kernel)]; kernel_rfl) | (rw [if_neg (by decide +kernel)]; exact ⟨rfl, rfl⟩))
    (fun os started H enc _ => lifted os started H enc)

/-- ████ THE STATEMENT ████ -/
theorem proved : Rows.FnPartEndStepAndFloorSaid :=
  over
end Go.Proofs.Qxb6616908a.fnPartEndStepAndFloor
