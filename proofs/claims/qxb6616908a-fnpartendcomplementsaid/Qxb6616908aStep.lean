/-
  Seat b6616908a: FnPartEndStepAndFloor (3): the walk over abstract numbers, each callee by its contract.
-/
import Derived.Test.Qxb6616908aMul
namespace Go.Proofs.Qxb6616908a
open Go.RowKit Go.Lib
set_option linter.unusedVariables false

/-- a call that hands back one number and at most draws -/
def Gives (f : Nat) (args : Array Value) (v : Value) : Prop := ∀ w : World, Calls Try.prog f args w fun e w' => e = .returned v ∧ ∃ q, w' = w.drewN q
/-- a call that leaves the world as it was -/
def Says (f : Nat) (args : Array Value) (v : Value) : Prop := ∀ w : World, Calls Try.prog f args w fun e w' => e = .returned v ∧ w' = w

set_option maxRecDepth 100000 in
set_option maxHeartbeats 2000000 in
theorem step_core (c p j A B q ph pl ch cl nh nl : Nat) (hp : 0 < p) (hj : j < p) (hpb : p < 18446744073709551616) (ht : (c : Int) % (p : Int) ≤ 18446744073709551615 / ((j : Int) + 1))
    (K1 : Gives 5 #[.int .u64 c, .int .u64 p, .int .u64 j] (.int .u64 A)) (K2 : Gives 5 #[.int .u64 c, .int .u64 p, .int .u64 ((j : Int) + 1)] (.int .u64 B))
    (hq : IntKind.u64.wrap ((c : Int) / (p : Int)) = (q : Int)) (hAB : A ≤ B) (hB : B < 18446744073709551616) (hd : B = A + q ∨ B = A + q + 1)
    (M1 : Says 6 #[.int .u64 A, .int .u64 p] (.tuple #[.int .u64 ph, .int .u64 pl])) (M2 : Says 6 #[.int .u64 c, .int .u64 j] (.tuple #[.int .u64 ch, .int .u64 cl]))
    (L1 : Says 7 #[.int .u64 ph, .int .u64 pl, .int .u64 ch, .int .u64 cl] (.bool true)) (hpl : pl < 18446744073709551616)
    (hcar : (pl + p < 18446744073709551616 ∧ Says 7 #[.int .u64 ph, .int .u64 ((pl : Int) + (p : Int)), .int .u64 ch, .int .u64 cl] (.bool false)) ∨
      (18446744073709551616 ≤ pl + p ∧ IntKind.u64.wrap ((pl : Int) + (p : Int)) = (nl : Int) ∧ nl < pl ∧ ph + 1 < 18446744073709551616 ∧ Says 7 #[.int .u64 ((ph : Int) + 1), .int .u64 nl, .int .u64 ch, .int .u64 cl] (.bool false))) (w : World) :
    Calls Try.prog 3 #[.int .u64 c, .int .u64 p, .int .u64 j] w fun e w' => e = .returned (.bool true) ∧ ∃ q, w' = w.drewN q := by
  have hpz : ¬ (p : Int) = 0 := by omega
  have hpe : ((p : Int) == 0) = false := by simp; omega
  have HQ : Hid (IntKind.u64.wrap ((c : Int) / (p : Int)) = (q : Int)) := hq
  clear hq
  go_enter Try.func3, Try.ntmps3
  go_wp2
  go_quiet (fail)
  go_wp2_with fail
  refine (K1 _).mono ?_
  rintro e w1 ⟨rfl, q1, rfl⟩
  go_wp2_with fail
  refine (K2 _).mono ?_
  rintro e w1 ⟨rfl, q2, rfl⟩
  have hq := HQ.out
  have hA0 : A < 18446744073709551616 := by omega
  rcases hd with hd | hd
  · have b1 : ((B : Int) - (A : Int) != (q : Int)) = false := by simp; omega
    clear hd
    go_wp2_with fail
    refine (M1 _).mono ?_
    rintro e w1 ⟨rfl, rfl⟩
    go_wp2_with fail
    refine (M2 _).mono ?_
    rintro e w1 ⟨rfl, rfl⟩
    go_wp2_with fail
    refine (L1 _).mono ?_
    rintro e w1 ⟨rfl, rfl⟩
    rcases hcar with ⟨g1, L2⟩ | ⟨g1, g2, g3, g4, L2⟩
    · go_wp2_with fail
      refine (L2 _).mono ?_
      rintro e w1 ⟨rfl, rfl⟩
      go_wp2
      go_ret
      exact ⟨rfl, _, rfl⟩
    · go_wp2_with fail
      refine (L2 _).mono ?_
      rintro e w1 ⟨rfl, rfl⟩
      go_wp2
      go_ret
      exact ⟨rfl, _, rfl⟩
  · have b1 : ((B : Int) - (A : Int) != (q : Int)) = true := by simp; omega
    have b2 : ((B : Int) - (A : Int) != (q : Int) + 1) = false := by simp; omega
    have hq1 : q + 1 < 18446744073709551616 := by omega
    clear hd
    go_wp2_with fail
    refine (M1 _).mono ?_
    rintro e w1 ⟨rfl, rfl⟩
    go_wp2_with fail
    refine (M2 _).mono ?_
    rintro e w1 ⟨rfl, rfl⟩
    go_wp2_with fail
    refine (L1 _).mono ?_
    rintro e w1 ⟨rfl, rfl⟩
    rcases hcar with ⟨g1, L2⟩ | ⟨g1, g2, g3, g4, L2⟩
    · go_wp2_with fail
      refine (L2 _).mono ?_
      rintro e w1 ⟨rfl, rfl⟩
      go_wp2
      go_ret
      exact ⟨rfl, _, rfl⟩
    · go_wp2_with fail
      refine (L2 _).mono ?_
      rintro e w1 ⟨rfl, rfl⟩
      go_wp2
      go_ret
      exact ⟨rfl, _, rfl⟩
end Go.Proofs.Qxb6616908a
