/-
  Seat b6616866a: the law's walk out of the callees' contracts.
-/
import Derived.Test.Qxb6616866aZZ
import Derived.OpenShut
namespace Go.Proofs.Qxb6616866a
open Go.RowKit
set_option linter.unusedVariables false

theorem same_addr (A : Option Addr) (n ca cb : Nat) (w : World) (hn : n ≤ 1048576)
    (h : 0 < n → ∃ b o, ∃ z : Nat → Int, A = some ⟨b, o, none⟩ ∧ ∀ i, i < n → w.cell? ⟨b, o + i, none⟩ = some (.int .u8 (z i))) :
    Calls Try.prog 8 #[.slice A n ca, .slice A n cb] w fun e w' => e = .returned (.bool true) ∧ ∃ q, w' = w.drewN q := by
  by_cases hp : 0 < n
  · obtain ⟨b, o, z, rfl, hc⟩ := h hp
    exact same_yes ⟨b, o, none⟩ ⟨b, o, none⟩ n ca cb z w hn hc hc
  · obtain rfl : n = 0 := by omega
    exact (same_empty A A ca cb w).mono fun e w' ⟨he, hw⟩ => ⟨he, 0, hw⟩

set_option maxHeartbeats 800000 in
theorem clone_empty (x : Addr) (cap : Nat) (w : World) :
    Calls Try.prog 6 #[.slice (some x) 0 cap] w fun e w' => e = .returned (.slice (some ⟨w.heap.size, 0, none⟩) 0 0) ∧ Below w.heap.size w w' := by
  obtain ⟨i0, hi, hz0, hz1, hz2⟩ := info_parts Try.info5
  have hq := q22
  go_enter Try.func6, Try.ntmps6
  go_wp2_with (at_make; refine wpList_make_full _ rfl _ _ 22 rfl w.heap.size 5 i0 (.int .u8 0) 1 Try.underlying22 hi hz0 hz1 _ _ _ _ 0 rfl rfl rfl rfl ?b2 ?b3 ?b4 ?_)
  case b2 => rw [hz2]; omega
  case b3 => unfold maxLen; omega
  case b4 => exact Nat.le_refl _
  intro w1 hown hgrow
  have hbel := (Below.refl w.heap.size w).grown hgrow (Nat.le_refl _) (fun k hk => by cases hk)
  clear hgrow hi hz0 hz1 hz2 hq
  go_wp2
  refine wp_loop_rounds 1 ?_
  rw [rounds_succ]
  go_wp2
  go_ret
  exact ⟨rfl, hbel⟩

/-- WHAT THE WALK IS TOLD OF THE SLICE THAT CAME IN -/
def IsRow (k : IntKind) (w : World) (a : Option Addr) (len cap : Nat) (zs : List Int) : Prop :=
  (a = none ∧ len = 0 ∧ cap = 0 ∧ zs = []) ∨
  ∃ x, a = some x ∧ len ≤ cap ∧ cap ≤ maxLen ∧ zs.length = cap ∧ (∀ i, i < zs.length → w.cell? (x.add i) = some (.int k (zs.getD i 0))) ∧ ∀ n ∈ zs, (Lit.int k n).wf = true

theorem clone_all (a : Option Addr) (n cap : Nat) (zs : List Int) (w : World) (h : IsRow .u8 w a n cap zs) (hn : n ≤ 1048576) :
    Calls Try.prog 6 #[.slice a n cap] w fun e w' => ∃ A, e = .returned (.slice A n n) ∧
      (0 < n → A = some ⟨w.heap.size, 0, none⟩ ∧ w.heap.size < w'.heap.size ∧ ∀ i, i < n → w'.cell? ⟨w.heap.size, i, none⟩ = some (.int .u8 (zs.getD i 0))) ∧ Below w.heap.size w w' := by
  rcases h with ⟨rfl, rfl, rfl, rfl⟩ | ⟨x, rfl, hl, hm, hz, hc, hw⟩
  · exact (clone_nil w).mono fun e w' ⟨he, hw⟩ => ⟨none, he, fun h => by omega, by subst hw; exact Below.refl _ _⟩
  · by_cases hp : 0 < n
    · obtain ⟨b, off, rfl, hc'⟩ := ints_at hc (by omega)
      refine (clone_any ⟨b, off, none⟩ n cap zs w hn (fun _ => ?_) (fun i hi => hc' i (by omega))).mono fun e w' ⟨he, ⟨ys, hown, hy⟩, hb⟩ => ⟨_, he, fun _ => ⟨rfl, ?_, fun i hi => ?_⟩, hb⟩
      · exact World.block_lt_of_cell? _ _ (hc' 0 (by omega))
      · exact (hown.lt _ rfl).2
      · rw [hown.cellAt i (by omega)]; exact hy i hi
    · obtain rfl : n = 0 := by omega
      exact (clone_empty x cap w).mono fun e w' ⟨he, hb⟩ => ⟨_, he, fun h => by omega, hb⟩

theorem ownsRow_below {w w' : World} {base e size n : Nat} {v : Value} {xs : List Value} (h : w.ownsRow base e size v n xs) (hb : Below w.heap.size w w') : w'.ownsRow base e size v n xs :=
  h.kept (row := none) ⟨hb.os, hb.tape, hb.output, hb.size, fun k hk _ => hb.block k hk⟩ (by cases hv : v.ownBlock <;> simp)

end Go.Proofs.Qxb6616866a
