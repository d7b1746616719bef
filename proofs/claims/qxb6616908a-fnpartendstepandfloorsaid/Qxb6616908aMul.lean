/-
  Seat b6616908a: zzMul (6), zzLE128 (7), partEnd (8), ZZPartEnd (5) by their contracts. The walk of the school multiplication is turned from the kit's worked bits.Mul64 (Derived/Shelf/Bits/Mul64.lean).
-/
import Derived.Test.Qxb6616908aRows
import Derived.WalkKit
import Derived.WalkSpells
import Derived.Lib.Mul64
import Derived.Laws.Bits64b
import Derived.Deep.QuietTactic
import Derived.BigQuiet
namespace Go.Proofs.Qxb6616908a
open Go.RowKit Go.Lib
set_option linter.unusedVariables false

theorem maskN (a : Nat) (ha : a < 18446744073709551616) : bits .and .u64 (a : Int) 4294967295 = ((a % 4294967296 : Nat) : Int) := by
  have h := bits_and_u64_nat a 4294967295 ha (by omega)
  have e : a &&& 4294967295 = a % 4294967296 := Nat.and_two_pow_sub_one_eq_mod a 32
  rw [e] at h
  exact h
theorem divN (a : Nat) : (a : Int) / 4294967296 = ((a / 4294967296 : Nat) : Int) := by omega
theorem mulN (a b : Nat) : (a : Int) * (b : Int) = ((a * b : Nat) : Int) := (Int.natCast_mul a b).symm
theorem addN (a b : Nat) : (a : Int) + (b : Int) = ((a + b : Nat) : Int) := (Int.natCast_add a b).symm
theorem wrapN (a : Nat) (ha : a < 18446744073709551616) : IntKind.u64.wrap (a : Int) = (a : Int) := by rw [IntKind.wrap_u64]; omega
theorem wrapM (a : Nat) : IntKind.u64.wrap (a : Int) = ((a % 18446744073709551616 : Nat) : Int) := by rw [IntKind.wrap_u64]; omega

set_option maxHeartbeats 1000000 in
theorem mul_any (x y : Nat) (hx : x < 18446744073709551616) (hy : y < 18446744073709551616) (w : World) :
    Calls Try.prog 6 #[.int .u64 x, .int .u64 y] w fun e w' => e = .returned (.tuple #[.int .u64 ((x * y / 18446744073709551616 : Nat) : Int), .int .u64 ((x * y % 18446744073709551616 : Nat) : Int)]) ∧ w' = w := by
  obtain ⟨bd, bt, bw, hhi⟩ := Lib.mul64_hi x y hx hy
  have ba := Lib.half_mul_le (a := x / 4294967296) (b := y / 4294967296) (by omega) (by omega)
  have bb := Lib.half_mul_le (a := x / 4294967296) (b := y % 4294967296) (by omega) (by omega)
  have bc := Lib.half_mul_le (a := x % 4294967296) (b := y / 4294967296) (by omega) (by omega)
  have ba' : x / 4294967296 * (y / 4294967296) < 18446744073709551616 := by omega
  have bb' : x / 4294967296 * (y % 4294967296) < 18446744073709551616 := by omega
  have bc' : x % 4294967296 * (y / 4294967296) < 18446744073709551616 := by omega
  have bh1 : x / 4294967296 * (y / 4294967296) + (x / 4294967296 * (y % 4294967296) + x % 4294967296 * (y % 4294967296) / 4294967296) / 4294967296 < 18446744073709551616 := by omega
  have bh : x / 4294967296 * (y / 4294967296) + (x / 4294967296 * (y % 4294967296) + x % 4294967296 * (y % 4294967296) / 4294967296) / 4294967296 + ((x / 4294967296 * (y % 4294967296) + x % 4294967296 * (y % 4294967296) / 4294967296) % 4294967296 + x % 4294967296 * (y / 4294967296)) / 4294967296 < 18446744073709551616 := by omega
  go_enter Try.func6, Try.ntmps6
  go_wp2
  simp only [maskN x hx, maskN y hy, divN, mulN, addN, wrapN _ bd, wrapN _ bb', wrapN _ bt, maskN _ bt, wrapN _ bc', wrapN _ bw, wrapN _ ba', wrapN _ bh1, wrapN _ bh, wrapM (x * y)]
  rw [hhi]
  go_ret2
  exact ⟨rfl, rfl⟩

theorem quoN (a b : Nat) : (a : Int) / (b : Int) = ((a / b : Nat) : Int) := (Int.natCast_ediv a b).symm
theorem remN (a b : Nat) : (a : Int) % (b : Int) = ((a % b : Nat) : Int) := (Int.natCast_emod a b).symm

theorem tdivN (a b : Nat) : (a : Int).tdiv (b : Int) = ((a / b : Nat) : Int) := by
  rw [Int.tdiv_eq_ediv_of_nonneg (by omega)]; exact quoN a b

set_option maxHeartbeats 1000000 in
theorem part_any (c p j : Nat) (hc : c < 18446744073709551616) (hp : 0 < p) (h1 : c / p * j < 18446744073709551616) (h2 : c % p * j < 18446744073709551616) (h3 : c / p * j + c % p * j / p < 18446744073709551616) (w : World) :
    Calls Try.prog 8 #[.int .u64 c, .int .u64 p, .int .u64 j] w fun e w' => e = .returned (.int .u64 ((c / p * j + c % p * j / p : Nat) : Int)) ∧ ∃ q, w' = w.drewN q := by
  have hpz : ¬ (p : Int) = 0 := by omega
  have hp0 : (0 : Int) < p := by omega
  go_enter Try.func8, Try.ntmps8
  go_wp2
  go_quiet (fail)
  go_wp2
  have k1 : c / p < 18446744073709551616 := Nat.lt_of_le_of_lt (Nat.div_le_self c p) hc
  have k2 : c % p * j / p < 18446744073709551616 := Nat.lt_of_le_of_lt (Nat.div_le_self _ p) h2
  simp only [quoN, remN, mulN, tdivN, addN, wrapN _ k1, wrapN _ h1, wrapN _ h2, wrapN _ k2, wrapN _ h3]
  go_ret
  exact ⟨rfl, nq, rfl⟩

theorem zzpart_any (c p j : Nat) (hc : c < 18446744073709551616) (hp : 0 < p) (h1 : c / p * j < 18446744073709551616) (h2 : c % p * j < 18446744073709551616) (h3 : c / p * j + c % p * j / p < 18446744073709551616) (w : World) :
    Calls Try.prog 5 #[.int .u64 c, .int .u64 p, .int .u64 j] w fun e w' => e = .returned (.int .u64 ((c / p * j + c % p * j / p : Nat) : Int)) ∧ ∃ q, w' = w.drewN q := by
  have K := part_any c p j hc hp h1 h2 h3 w
  clear h1 h2 h3 hc hp
  go_enter Try.func5, Try.ntmps5
  go_wp2_with fail
  refine K.mono ?_
  rintro e w' ⟨rfl, q, rfl⟩
  clear K
  go_wp2
  go_ret
  exact ⟨rfl, q, rfl⟩

/-- zzLE128: the numbers as pairs of words -/
theorem le_any (a b c d : Nat) (w : World) :
    Calls Try.prog 7 #[.int .u64 a, .int .u64 b, .int .u64 c, .int .u64 d] w fun e w' => e = .returned (.bool (decide (a < c ∨ (a = c ∧ b ≤ d)))) ∧ w' = w := by
  by_cases h1 : a < c
  · have g1 : (a : Int) < c := by omega
    have e : decide (a < c ∨ (a = c ∧ b ≤ d)) = true := by simp [h1]
    rw [e]
    clear e h1
    go_enter Try.func7, Try.ntmps7
    go_wp2
    go_ret
    exact ⟨rfl, rfl⟩
  · by_cases h2 : a = c
    · subst h2
      by_cases h3 : b ≤ d
      · have e : decide (a < a ∨ (a = a ∧ b ≤ d)) = true := by simp [h3]
        rw [e]
        clear e h1
        go_enter Try.func7, Try.ntmps7
        go_wp2
        go_ret
        exact ⟨by simp, rfl⟩
      · have e : decide (a < a ∨ (a = a ∧ b ≤ d)) = false := by simp; omega
        rw [e]
        clear e h1
        go_enter Try.func7, Try.ntmps7
        go_wp2
        go_ret
        exact ⟨by simp, rfl⟩
    · have e : decide (a < c ∨ (a = c ∧ b ≤ d)) = false := by simp; omega
      rw [e]
      have g1 : ((a : Int) == c) = false := by simp; omega
      have g2 : decide ((a : Int) < c) = false := by simp; omega
      clear e h2
      go_enter Try.func7, Try.ntmps7
      go_wp2
      go_ret
      exact ⟨by simp, rfl⟩
end Go.Proofs.Qxb6616908a
