/-
  Seat b6616908a: the proof of 'Rows.FnPartEndComplementSaid', over the given shell (proof-skeleton.mjs): its frame as it was laid.
-/
import Derived.Test.Qxb6616908aRows
import Derived.Test.Qxb6616908aComp
import Derived.Test.Qxb6616908aPlain
import Derived.WalkKit
import Derived.ProofKit
import Derived.OpenShut
import Derived.ShutString
namespace Go.Proofs.Qxb6616908a.fnPartEndComplement
open Go.ChangeShapes Go.WideShapes Go.ChangeAt Go.RowKit
open Go.ChangeMaps (open_string shut_string)
set_option linter.unusedVariables false      -- a walk need not use every 'w<i>' (that an integer argument fits its kind)

theorem own : ownKnob Try.prog.godebug = none := by kernel_rfl

theorem grown_drewN (w : World) (q : Nat) : Grown w (w.drewN q) := Grown.refl w

/-- what the two products say -/
theorem cases3 (c p j : Nat) (hp : 0 < p) (hj : j ≤ p) :
    ((((PE c p j * p / 18446744073709551616 : Nat) : Int) == ((c * j / 18446744073709551616 : Nat) : Int)) = true ∧ (((PE c p j * p % 18446744073709551616 : Nat) : Int) == ((c * j % 18446744073709551616 : Nat) : Int)) = true ∧ PE c p j + PE c p (p - j) = c) ∨
    ((((PE c p j * p / 18446744073709551616 : Nat) : Int) == ((c * j / 18446744073709551616 : Nat) : Int)) = true ∧ (((PE c p j * p % 18446744073709551616 : Nat) : Int) == ((c * j % 18446744073709551616 : Nat) : Int)) = false ∧ PE c p j + PE c p (p - j) + 1 = c) ∨
    ((((PE c p j * p / 18446744073709551616 : Nat) : Int) == ((c * j / 18446744073709551616 : Nat) : Int)) = false ∧ PE c p j + PE c p (p - j) + 1 = c) := by
  have hw := words_eq (PE c p j * p) (c * j)
  rcases pe_comp c p j hp hj with ⟨h1, h2⟩ | ⟨h1, h2⟩
  · left
    rw [h1]
    exact ⟨by simp, by simp, h2⟩
  · right
    by_cases h : PE c p j * p / 18446744073709551616 = c * j / 18446744073709551616
    · left
      refine ⟨by rw [h]; simp, ?_, h2⟩
      rw [beq_eq_false_iff_ne]
      intro e
      exact h1 (hw.1 ⟨h, by omega⟩)
    · right
      refine ⟨?_, h2⟩
      rw [beq_eq_false_iff_ne]
      intro e
      exact h (by omega)

/-- the law where its tests let it through -/
theorem walk_main (c p j : Nat) (hc : c < 18446744073709551616) (hpb : p < 18446744073709551616) (hp : 0 < p) (hj : j ≤ p)
    (ht : (p ≤ j + j ∧ (c : Int) % (p : Int) ≤ 18446744073709551615 / (j : Int)) ∨ (j + j < p ∧ (c : Int) % (p : Int) ≤ 18446744073709551615 / ((p : Int) - (j : Int)))) (w : World) :
    Calls Try.prog 4 #[.int .u64 c, .int .u64 p, .int .u64 j] w fun e w' => e = .returned (.bool true) ∧ ∃ q, w' = w.drewN q := by
  have hA := pe_le c p j hp hj
  have hB := pe_le c p (p - j) hp (Nat.sub_le p j)
  have ek : (p : Int) - (j : Int) = ((p - j : Nat) : Int) := by omega
  have hr : c % p * j < 18446744073709551616 ∧ c % p * (p - j) < 18446744073709551616 := by
    rcases ht with ⟨h, ht⟩ | ⟨h, ht⟩
    · have g := rem_mul' c p j (by omega) ht
      exact ⟨g, Nat.lt_of_le_of_lt (Nat.mul_le_mul_left _ (by omega)) g⟩
    · rw [ek] at ht
      have g := rem_mul' c p (p - j) (by omega) ht
      exact ⟨Nat.lt_of_le_of_lt (Nat.mul_le_mul_left _ (by omega)) g, g⟩
  have K1 : Gives 5 #[.int .u64 c, .int .u64 p, .int .u64 j] (.int .u64 (PE c p j : Nat)) := fun w => zzpart_any c p j hc hp (Nat.lt_of_le_of_lt (q_le c p j hj) hc) hr.1 (Nat.lt_of_le_of_lt hA hc) w
  have K2 : Gives 5 #[.int .u64 c, .int .u64 p, .int .u64 ((p : Int) - (j : Int))] (.int .u64 (PE c p (p - j) : Nat)) := by
    rw [ek]; exact fun w => zzpart_any c p (p - j) hc hp (Nat.lt_of_le_of_lt (q_le c p (p - j) (Nat.sub_le p j)) hc) hr.2 (Nat.lt_of_le_of_lt hB hc) w
  have M1 : Says 6 #[.int .u64 (PE c p j : Nat), .int .u64 p] _ := fun w => mul_any (PE c p j) p (by omega) hpb w
  have M2 : Says 6 #[.int .u64 c, .int .u64 j] _ := fun w => mul_any c j hc (by omega) w
  rcases ht with ⟨h, ht⟩ | ⟨h, ht⟩
  · exact comp_lo c p j (PE c p j) (PE c p (p - j)) _ _ _ _ hp hj hpb hc h ht K1 K2 M1 M2 (cases3 c p j hp hj) w
  · exact comp_hi c p j (PE c p j) (PE c p (p - j)) _ _ _ _ hp hj hpb hc h ht K1 K2 M1 M2 (cases3 c p j hp hj) w

set_option maxHeartbeats 1000000 in
/-- the remainder too great: the larger of the two counts is j -/
theorem out_lo (c p j : Nat) (hp : 0 < p) (hj : j ≤ p) (hpb : p < 18446744073709551616) (hm : p ≤ j + j) (ht : 18446744073709551615 / (j : Int) < (c : Int) % (p : Int)) (w : World) :
    Calls Try.prog 4 #[.int .u64 c, .int .u64 p, .int .u64 j] w fun e w' => e = .returned (.bool true) ∧ ∃ q, w' = w.drewN q := by
  have hpe : ((p : Int) == 0) = false := by simp; omega
  have hpz : ¬ (p : Int) = 0 := by omega
  have hmz : ¬ (j : Int) = 0 := by omega
  have hmd : 0 < j := by omega
  go_enter Try.func4, Try.ntmps4
  go_wp2
  go_quiet (fail)
  go_wp2
  go_ret
  exact ⟨rfl, _, rfl⟩

set_option maxHeartbeats 1000000 in
/-- .. is parts - j -/
theorem out_hi (c p j : Nat) (hp : 0 < p) (hj : j ≤ p) (hpb : p < 18446744073709551616) (hm : j + j < p) (ht : 18446744073709551615 / ((p : Int) - (j : Int)) < (c : Int) % (p : Int)) (w : World) :
    Calls Try.prog 4 #[.int .u64 c, .int .u64 p, .int .u64 j] w fun e w' => e = .returned (.bool true) ∧ ∃ q, w' = w.drewN q := by
  have hpe : ((p : Int) == 0) = false := by simp; omega
  have hpz : ¬ (p : Int) = 0 := by omega
  have hm0 : (0 : Int) < (p : Int) - (j : Int) := by omega
  have hmz : ¬ (p : Int) - (j : Int) = 0 := by omega
  have hmd : j < p := by omega
  go_enter Try.func4, Try.ntmps4
  go_wp2
  go_quiet (fail)
  go_wp2
  go_ret
  exact ⟨rfl, _, rfl⟩

set_option maxHeartbeats 1000000 in
theorem walk (a0 : Int) (a1 : Int) (a2 : Int) (w0 : (Lit.int .u64 a0).wf = true) (w1 : (Lit.int .u64 a1).wf = true) (w2 : (Lit.int .u64 a2).wf = true) (w : World) :
    Calls Try.prog 4 #[.int .u64 a0, .int .u64 a1, .int .u64 a2] w fun e w' => e = .returned (.bool true) ∧ Grown w w' := by
  have b0 := bounds_u64 w0
  have b1 := bounds_u64 w1
  have b2 := bounds_u64 w2
  obtain ⟨c, rfl⟩ : ∃ c : Nat, a0 = (c : Int) := ⟨a0.toNat, by omega⟩
  obtain ⟨p, rfl⟩ : ∃ p : Nat, a1 = (p : Int) := ⟨a1.toNat, by omega⟩
  obtain ⟨j, rfl⟩ : ∃ j : Nat, a2 = (j : Int) := ⟨a2.toNat, by omega⟩
  clear w0 w1 w2
  have hpb : p < 18446744073709551616 := by omega
  have hc : c < 18446744073709551616 := by omega
  clear b0 b1 b2
  by_cases hp : 0 < p
  · by_cases hj : j ≤ p
    · suffices h : Calls Try.prog 4 #[.int .u64 c, .int .u64 p, .int .u64 j] w fun e w' => e = .returned (.bool true) ∧ ∃ q, w' = w.drewN q from
        h.mono fun e w' ⟨he, q, hw⟩ => ⟨he, by rw [hw]; exact grown_drewN w q⟩
      rcases Nat.lt_or_ge (j + j) p with hm | hm
      · by_cases ht : (c : Int) % (p : Int) ≤ 18446744073709551615 / ((p : Int) - (j : Int))
        · exact walk_main c p j hc hpb hp hj (.inr ⟨hm, ht⟩) w
        · exact out_hi c p j hp hj hpb hm (by omega) w
      · by_cases ht : (c : Int) % (p : Int) ≤ 18446744073709551615 / (j : Int)
        · exact walk_main c p j hc hpb hp hj (.inl ⟨hm, ht⟩) w
        · exact out_lo c p j hp hj hpb hm (by omega) w
    · have hj' : p < j := by omega
      have hpe : ((p : Int) == 0) = false := by simp; omega
      clear hj
      go_enter Try.func4, Try.ntmps4
      go_wp2
      go_ret
      exact ⟨rfl, Grown.refl _⟩
  · obtain rfl : p = 0 := by omega
    clear hp
    go_enter Try.func4, Try.ntmps4
    go_wp2
    go_ret
    exact ⟨rfl, Grown.refl _⟩

/-! ### THE ROW's STEP: WRITTEN OUT: LEAVE IT -/
set_option maxRecDepth 100000 in
theorem lifted (os : Os) (started : os.Started) (H : Type) (enc : TypeId × Value → H) :
    ReturnsInHanded {} Try.checked os 4 .any (Rows.fnPartEndComplementSpec.pre6 enc Try.prog Try.f4 Rows.fnPartEndComplementRow.domain false) (Rows.fnPartEndComplementSpec.post enc Try.prog Try.f4 false true false false) := by
  refine returnsInHanded_of_change (C := Try.checked) own started (by kernel_rfl) Try.func4
    (ChangeSpec.witness6 (enc := enc) (C := Try.checked) false ⟨#[], #[.int .u64 0, .int .u64 0, .int .u64 0], []⟩ 8 (by kernel_rfl) (by kernel_rfl) (by kernel_rfl) (by kernel_rfl)) ?_
  intro W base args ds gs before hval0 hW hcnd _
  have hval : ∀ (j : Nat) t v, Try.f4.params[j]? = some t → args[j]? = some v → Value.okWide Try.prog W .any base t v := hval0
  have hW' := hW
  obtain ⟨p, q, hA0, hV, rfl, hfz, hnd⟩ := hW
  have hA : DataW.TrodAll enc Try.prog W 0 (fun _ => true) true Try.f4.params.toList args.toList ds p := hA0
  rw [Try.params4] at hA hval
  obtain ⟨v0, vs0, d0, ds0, p0, q0, hargs, rfl, rfl, h0, r0⟩ := trodAll_cons hA
  obtain ⟨v1, vs1, d1, ds1, p1, q1, rfl, rfl, rfl, h1, r1⟩ := trodAll_cons r0
  obtain ⟨v2, vs2, d2, ds2, p2, q2, rfl, rfl, rfl, h2, r2⟩ := trodAll_cons r1
  obtain ⟨rfl, rfl, rfl⟩ := trodAll_nil r2
  obtain rfl : args = #[v0, v1, v2] := by cases args; simp_all
  obtain ⟨rfl, rfl⟩ := trodVars_none hV
  obtain ⟨a0, rfl, rfl, rfl, w0⟩ := open_int Try.underlying22 (hval 0 22 v0 rfl rfl) h0
  obtain ⟨a1, rfl, rfl, rfl, w1⟩ := open_int Try.underlying22 (hval 1 22 v1 rfl rfl) h1
  obtain ⟨a2, rfl, rfl, rfl, w2⟩ := open_int Try.underlying22 (hval 2 22 v2 rfl rfl) h2
  clear hA0 hval0
  simp only [List.append_nil] at hW'
  refine (walk a0 a1 a2 w0 w1 w2 W).mono fun e W' ⟨he, hg⟩ => ?_
  subst he
  exact ⟨_, rfl, post_of_same (pa := []) (pv := []) hW' (fun _ _ _ => (trodAll_cons_mk (shut_bool Try.underlying4 _) trodAll_mk0)) (fun sp _ => (trodAll_cons_mk (shut_int Try.underlying22 w0) (trodAll_cons_mk (shut_int Try.underlying22 w1) (trodAll_cons_mk (shut_int Try.underlying22 w2) trodAll_mk0)))) (fun _ _ => rfl) rfl
    (hg.frame _) hg.2.1 (ok_one (by kernel_rfl) rfl (okWide_bool_mk Try.underlying4 _))⟩

theorem over : Rows.fnPartEndComplementRow.holds Try.pinned (OpenSpec.ofChange Rows.fnPartEndComplementSpec) :=
  OpenClaim.holds_of_wide 4 Try.f4 rfl rfl rfl rfl rfl rfl rfl ⟨rfl, rfl, rfl, rfl, rfl⟩ rfl rfl rfl rfl rfl (by kernel_rfl) Try.func4 (by kernel_rfl)
    (of_decide_eq_true (by kernel_rfl)) (by unfold Func.isWrapper; first | (rw [if_pos (by decide +kernel)]; kernel_rfl) | (rw [if_neg (by decide +kernel)]; exact ⟨rfl, rfl⟩))
    (fun os started H enc _ => lifted os started H enc)

/-- ████ THE STATEMENT ████ -/
theorem proved : Rows.FnPartEndComplementSaid :=
  over
end Go.Proofs.Qxb6616908a.fnPartEndComplement
