/-
  Seat b6616891aF: the law's walk out of the callees' contracts.
-/
import Derived.Test.Qxb6616891aFmtKey
import Derived.Laws.CopyOwn
import Derived.OpenShut
namespace Go.Proofs.Qxb6616891aFmt
open Go.RowKit Go.Extern.Stop Go.Stop Go.Extern
set_option linter.unusedVariables false

theorem q22 (w : World) (a : Option Addr) (n c : Nat) : (binOp .neq 22 (.slice a n c) (.slice none 0 0)).run Tryf.prog w = .ok (.bool (!a.isNone)) w :=
  run_neq_slice_nil_any w _ _ a n c 0 0 Tryf.underlying22

theorem Tryf.info3 : (Tryf.prog.info? 3).map (fun i => (i.zero, i.size, i.bytes)) = some (some (.int .i64 0), 1, 8) := by kernel_rfl

/-- WHAT THE WALK IS TOLD OF THE SLICE THAT CAME IN -/
def IsRow (w : World) (a : Option Addr) (len cap : Nat) (zs : List Int) : Prop :=
  (a = none ∧ len = 0 ∧ cap = 0 ∧ zs = []) ∨
  ∃ x, a = some x ∧ len ≤ cap ∧ cap ≤ maxLen ∧ zs.length = cap ∧ (∀ i, i < zs.length → w.cell? (x.add i) = some (.int .i64 (zs.getD i 0))) ∧ ∀ n ∈ zs, (Lit.int .i64 n).wf = true

set_option maxHeartbeats 400000 in
theorem walk_long (a0 : Option Addr) (n c0 : Nat) (x y z : Int) (w : World) (hn : 4096 < n) :
    Calls Tryf.prog 3 #[.slice a0 n c0, .int .i64 x, .int .i64 y, .int .i64 z] w fun e w' => e = .returned (.bool true) ∧ Below w.heap.size w w' := by
  by_cases h : n ≤ 1048576
  · go_enter Tryf.func3, Tryf.ntmps3
    go_wp2_with fail
    refine (bytes_any _ _ _ _ _ _ _).mono ?_
    rintro e w ⟨rfl, rfl⟩
    go_wp2
    go_ret
    exact ⟨rfl, Below.refl _ _⟩
  · go_enter Tryf.func3, Tryf.ntmps3
    go_wp2_with fail
    refine (bytes_any _ _ _ _ _ _ _).mono ?_
    rintro e w ⟨rfl, rfl⟩
    go_wp2
    go_ret
    exact ⟨rfl, Below.refl _ _⟩

set_option maxHeartbeats 400000 in
theorem walk_nil (x y z : Int) (w : World) :
    Calls Tryf.prog 3 #[.slice none 0 0, .int .i64 x, .int .i64 y, .int .i64 z] w fun e w' => e = .returned (.bool true) ∧ Below w.heap.size w w' := by
  have hq := q22
  go_enter Tryf.func3, Tryf.ntmps3
  go_wp2_with fail
  refine (bytes_any _ _ _ _ _ _ _).mono ?_
  rintro e w ⟨rfl, rfl⟩
  go_wp2_with fail
  refine (conf_any _ _ _ _ _ _ _).mono ?_
  rintro e w1 ⟨rfl, hb1⟩
  go_wp2_with fail
  refine (zzcheck_empty _ _ _).mono ?_
  rintro e w2 ⟨rfl, rfl⟩
  go_wp2
  go_ret
  exact ⟨rfl, hb1⟩

set_option maxHeartbeats 800000 in
theorem walk_empty (a0 : Addr) (c0 : Nat) (x y z : Int) (w : World) :
    Calls Tryf.prog 3 #[.slice (some a0) 0 c0, .int .i64 x, .int .i64 y, .int .i64 z] w fun e w' => e = .returned (.bool true) ∧ Below w.heap.size w w' := by
  have hq := q22
  obtain ⟨i0, hi, hz0, hz1, hz2⟩ := info_parts Tryf.info3
  go_enter Tryf.func3, Tryf.ntmps3
  go_wp2_with fail
  refine (bytes_any _ _ _ _ _ _ _).mono ?_
  rintro e w ⟨rfl, rfl⟩
  go_wp2_with (at_make; refine wpList_make_full _ rfl _ _ 22 rfl w.heap.size 3 i0 (.int .i64 0) 1 Tryf.underlying22 hi hz0 hz1 _ _ _ _ 0 rfl rfl rfl rfl ?b2 ?b3 ?b4 ?_)
  case b2 => rw [hz2]; omega
  case b3 => unfold maxLen; omega
  case b4 => exact Nat.le_refl _
  intro w1 hown hgrow
  have hbel := (Below.refl w.heap.size w).grown hgrow (Nat.le_refl _) (fun k hk => by cases hk)
  clear hgrow hi hz0 hz1 hz2 hq
  go_wp2_with (first
    | (go_at_call 5; refine (conf_any _ _ _ _ _ _ _).mono ?_; rintro e w2 ⟨rfl, hb1⟩)
    | (refine wpList_copy_nothing rfl (.tmp 27) (.tmp 28) 22 22 rfl 3 Tryf.underlying22 (by kernel_rfl) _ _ _ _ _ _ rfl rfl rfl ?_))
  refine (zzcheck_empty _ _ _).mono ?_
  rintro e w3 ⟨rfl, rfl⟩
  go_wp2
  go_ret
  exact ⟨rfl, hbel.trans (hb1.mono hbel.size)⟩
end Go.Proofs.Qxb6616891aFmt
