/-
  Seat b6616908a: FnPartEndComplement (4): the walk over abstract numbers, each callee by its contract.
-/
import Derived.Test.Qxb6616908aStep
namespace Go.Proofs.Qxb6616908a
open Go.RowKit Go.Lib
set_option linter.unusedVariables false

set_option maxRecDepth 100000 in
set_option maxHeartbeats 2000000 in
theorem comp_lo (c p j A B ph pl ch cl : Nat) (hp : 0 < p) (hj : j ≤ p) (hpb : p < 18446744073709551616) (hc : c < 18446744073709551616) (hm : p ≤ j + j) (ht : (c : Int) % (p : Int) ≤ 18446744073709551615 / ((j : Int)))
    (K1 : Gives 5 #[.int .u64 c, .int .u64 p, .int .u64 j] (.int .u64 A)) (K2 : Gives 5 #[.int .u64 c, .int .u64 p, .int .u64 ((p : Int) - (j : Int))] (.int .u64 B))
    (M1 : Says 6 #[.int .u64 A, .int .u64 p] (.tuple #[.int .u64 ph, .int .u64 pl])) (M2 : Says 6 #[.int .u64 c, .int .u64 j] (.tuple #[.int .u64 ch, .int .u64 cl]))
    (hcase : (((ph : Int) == (ch : Int)) = true ∧ ((pl : Int) == (cl : Int)) = true ∧ A + B = c) ∨ (((ph : Int) == (ch : Int)) = true ∧ ((pl : Int) == (cl : Int)) = false ∧ A + B + 1 = c) ∨ (((ph : Int) == (ch : Int)) = false ∧ A + B + 1 = c)) (w : World) :
    Calls Try.prog 4 #[.int .u64 c, .int .u64 p, .int .u64 j] w fun e w' => e = .returned (.bool true) ∧ ∃ q, w' = w.drewN q := by
  have hpz : ¬ (p : Int) = 0 := by omega
  have hpe : ((p : Int) == 0) = false := by simp; omega
  have hm0 : (0 : Int) < (j : Int) := by omega
  have hmz : ¬ ((j : Int)) = 0 := by omega
  have hmd : 0 < j := by omega
  go_enter Try.func4, Try.ntmps4
  go_wp2
  go_quiet (fail)
  go_wp2_with fail
  refine (K1 _).mono ?_
  rintro e w1 ⟨rfl, q1, rfl⟩
  go_wp2_with fail
  refine (K2 _).mono ?_
  rintro e w1 ⟨rfl, q2, rfl⟩
  go_wp2_with fail
  refine (M1 _).mono ?_
  rintro e w1 ⟨rfl, rfl⟩
  go_wp2_with fail
  refine (M2 _).mono ?_
  rintro e w1 ⟨rfl, rfl⟩
  rcases hcase with ⟨g1, g2, g3⟩ | ⟨g1, g2, g3⟩ | ⟨g1, g3⟩
  · have hs : ((A : Int) + (B : Int) == (c : Int)) = true := by simp; omega
    have hl : A + B < 18446744073709551616 := by omega
    clear g3
    go_wp2
    go_ret
    exact ⟨rfl, _, rfl⟩
  · have hs : ((A : Int) + (B : Int) == (c : Int) - 1) = true := by simp; omega
    have hl : A + B < 18446744073709551616 := by omega
    have hl1 : 0 < c := by omega
    clear g3
    go_wp2
    go_ret
    exact ⟨rfl, _, rfl⟩
  · have hs : ((A : Int) + (B : Int) == (c : Int) - 1) = true := by simp; omega
    have hl : A + B < 18446744073709551616 := by omega
    have hl1 : 0 < c := by omega
    clear g3
    go_wp2
    go_ret
    exact ⟨rfl, _, rfl⟩

set_option maxRecDepth 100000 in
set_option maxHeartbeats 2000000 in
theorem comp_hi (c p j A B ph pl ch cl : Nat) (hp : 0 < p) (hj : j ≤ p) (hpb : p < 18446744073709551616) (hc : c < 18446744073709551616) (hm : j + j < p) (ht : (c : Int) % (p : Int) ≤ 18446744073709551615 / ((p : Int) - (j : Int)))
    (K1 : Gives 5 #[.int .u64 c, .int .u64 p, .int .u64 j] (.int .u64 A)) (K2 : Gives 5 #[.int .u64 c, .int .u64 p, .int .u64 ((p : Int) - (j : Int))] (.int .u64 B))
    (M1 : Says 6 #[.int .u64 A, .int .u64 p] (.tuple #[.int .u64 ph, .int .u64 pl])) (M2 : Says 6 #[.int .u64 c, .int .u64 j] (.tuple #[.int .u64 ch, .int .u64 cl]))
    (hcase : (((ph : Int) == (ch : Int)) = true ∧ ((pl : Int) == (cl : Int)) = true ∧ A + B = c) ∨ (((ph : Int) == (ch : Int)) = true ∧ ((pl : Int) == (cl : Int)) = false ∧ A + B + 1 = c) ∨ (((ph : Int) == (ch : Int)) = false ∧ A + B + 1 = c)) (w : World) :
    Calls Try.prog 4 #[.int .u64 c, .int .u64 p, .int .u64 j] w fun e w' => e = .returned (.bool true) ∧ ∃ q, w' = w.drewN q := by
  have hpz : ¬ (p : Int) = 0 := by omega
  have hpe : ((p : Int) == 0) = false := by simp; omega
  have hm0 : (0 : Int) < (p : Int) - (j : Int) := by omega
  have hmz : ¬ ((p : Int) - (j : Int)) = 0 := by omega
  have hmd : j < p := by omega
  go_enter Try.func4, Try.ntmps4
  go_wp2
  go_quiet (fail)
  go_wp2_with fail
  refine (K1 _).mono ?_
  rintro e w1 ⟨rfl, q1, rfl⟩
  go_wp2_with fail
  refine (K2 _).mono ?_
  rintro e w1 ⟨rfl, q2, rfl⟩
  go_wp2_with fail
  refine (M1 _).mono ?_
  rintro e w1 ⟨rfl, rfl⟩
  go_wp2_with fail
  refine (M2 _).mono ?_
  rintro e w1 ⟨rfl, rfl⟩
  rcases hcase with ⟨g1, g2, g3⟩ | ⟨g1, g2, g3⟩ | ⟨g1, g3⟩
  · have hs : ((A : Int) + (B : Int) == (c : Int)) = true := by simp; omega
    have hl : A + B < 18446744073709551616 := by omega
    clear g3
    go_wp2
    go_ret
    exact ⟨rfl, _, rfl⟩
  · have hs : ((A : Int) + (B : Int) == (c : Int) - 1) = true := by simp; omega
    have hl : A + B < 18446744073709551616 := by omega
    have hl1 : 0 < c := by omega
    clear g3
    go_wp2
    go_ret
    exact ⟨rfl, _, rfl⟩
  · have hs : ((A : Int) + (B : Int) == (c : Int) - 1) = true := by simp; omega
    have hl : A + B < 18446744073709551616 := by omega
    have hl1 : 0 < c := by omega
    clear g3
    go_wp2
    go_ret
    exact ⟨rfl, _, rfl⟩

end Go.Proofs.Qxb6616908a
