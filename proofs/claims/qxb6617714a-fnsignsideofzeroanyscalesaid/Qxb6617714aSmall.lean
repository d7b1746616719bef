/-
  Seat b6617714a: cmp.Compare[int64] at 0 (8), ZZDecimal (4), Decimal.Sign (5), zzSideOk (6) by their contracts.
-/
import Derived.Test.Qxb6617714aRows
import Derived.WalkKit
import Derived.WalkSpells
import Derived.WalkLawsBesides
import Derived.RowKit3
namespace Go.Proofs.Qxb6617714a
open Go.RowKit
set_option linter.unusedVariables false

/-- k is the side of nought on which c lies -/
def Side (c k : Int) : Prop := (c < 0 ∧ k = -1) ∨ (0 < c ∧ k = 1) ∨ (c = 0 ∧ k = 0)

theorem cmp_any (c k : Int) (h : Side c k) (w : World) :
    Calls Try.prog 8 #[.int .i64 c, .int .i64 0] w fun e w' => e = .returned (.int .i64 k) ∧ w' = w := by
  rcases h with ⟨h, rfl⟩ | ⟨h, rfl⟩ | ⟨rfl, rfl⟩
  · go_enter Try.func8, Try.ntmps8
    go_wp2
    go_ret
    exact ⟨rfl, rfl⟩
  · go_enter Try.func8, Try.ntmps8
    go_wp2
    go_ret
    exact ⟨rfl, rfl⟩
  · go_enter Try.func8, Try.ntmps8
    go_wp2
    go_ret
    exact ⟨rfl, rfl⟩

theorem dec_any (c s : Int) (w : World) :
    Calls Try.prog 4 #[.int .i64 c, .int .i64 s] w fun e w' => e = .returned (.agg #[.int .i64 c, .pointer none, .int .i64 s]) ∧ ∃ x, w' = w.alloc (.cells x 24) := by
  go_enter Try.func4, Try.ntmps4
  go_wp2
  exact bodyPost_ret (v := .agg #[.int .i64 c, .pointer none, .int .i64 s]) (by simp [results, Try.results4, go_sem]) rfl ⟨rfl, _, rfl⟩

theorem sign_any (c s k : Int) (h : Side c k) (w : World) :
    Calls Try.prog 5 #[.agg #[.int .i64 c, .pointer none, .int .i64 s]] w fun e w' => e = .returned (.int .i64 k) ∧ ∃ x, w' = w.alloc (.cells x 24) := by
  have H : Hid (Side c k) := h
  clear h
  go_enter Try.func5, Try.ntmps5
  go_wp2_with (go_at_call 8; refine (cmp_any _ _ H.out _).mono ?_; rintro e w' ⟨rfl, rfl⟩)
  go_ret
  exact ⟨rfl, _, rfl⟩

theorem side_any (c k : Int) (h : Side c k) (w : World) :
    Calls Try.prog 6 #[.int .i64 c, .int .i64 k] w fun e w' => e = .returned (.bool true) ∧ w' = w := by
  rcases h with ⟨h, rfl⟩ | ⟨h, rfl⟩ | ⟨rfl, rfl⟩
  · have hd : decide (0 < c) = false := by simp; omega
    go_enter Try.func6, Try.ntmps6
    go_wp2
    go_ret
    exact ⟨rfl, rfl⟩
  · go_enter Try.func6, Try.ntmps6
    go_wp2
    go_ret
    exact ⟨rfl, rfl⟩
  · go_enter Try.func6, Try.ntmps6
    go_wp2
    go_ret
    exact ⟨rfl, rfl⟩
end Go.Proofs.Qxb6617714a
