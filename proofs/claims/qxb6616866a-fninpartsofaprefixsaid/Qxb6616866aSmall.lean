/-
  Seat b6616866a: the small callees of FnInPartsOfAPrefix by their contracts: zzBytes (9), zzb1Same (8), zzb1Clone (6).
-/
import Derived.Test.Qxb6616866aRows
import Derived.WalkKit
import Derived.WalkSpells
import Derived.WalkLawsBesides
import Derived.Deep.QuietTactic
import Derived.BigQuiet
namespace Go.Proofs.Qxb6616866a
open Go.RowKit
set_option linter.unusedVariables false

theorem bytes_any (a : Option Addr) (len cap : Nat) (k : Int) (w : World) :
    Calls Try.prog 9 #[.slice a len cap, .int .i64 k] w fun e w' => e = .returned (.bool (decide (len ≤ 1048576))) ∧ w' = w := by
  by_cases h : len ≤ 1048576
  · have h1 : (len : Int) ≤ 1048576 := by omega
    go_enter Try.func9, Try.ntmps9
    go_wp2
    go_ret
    exact ⟨by simp [h], rfl⟩
  · have h1 : (1048576 : Int) < len := by omega
    go_enter Try.func9, Try.ntmps9
    go_wp2
    go_ret
    exact ⟨by simp [h], rfl⟩

set_option maxHeartbeats 400000 in
/-- two slices of one length whose cells read the same bytes: zzb1Same says yes -/
theorem same_yes (a b : Addr) (n ca cb : Nat) (z : Nat → Int) (w : World) (hn : n ≤ 1048576)
    (ha : ∀ i, i < n → w.cell? ⟨a.block, a.off + i, none⟩ = some (.int .u8 (z i)))
    (hb : ∀ i, i < n → w.cell? ⟨b.block, b.off + i, none⟩ = some (.int .u8 (z i))) :
    Calls Try.prog 8 #[.slice (some ⟨a.block, a.off, none⟩) n ca, .slice (some ⟨b.block, b.off, none⟩) n cb] w fun e w' => e = .returned (.bool true) ∧ ∃ q, w' = w.drewN q := by
  go_enter Try.func8, Try.ntmps8
  go_wp2
  go_loopw [5] (fun i wr => ∃ k : Nat, k ≤ n ∧ i = .int .i64 k ∧ ∃ q, wr = w.drewN q) (fun i _ => n - (intOf i).toNat)
  case atStart => exact ⟨0, Nat.zero_le _, rfl, 0, rfl⟩
  case round =>
    obtain ⟨k, hk, rfl, q, rfl⟩ := hrel
    by_cases hlt : k < n
    · have h1 := ha k hlt
      have h2 := hb k hlt
      clear ha hb
      go_wp2
      go_quiet (fail)
      go_wp2
      go_roundw
      case rel => exact ⟨k + 1, by omega, by go_num, _, rfl⟩
      case measure => simp [intOf]; omega
    · go_wp2
      go_ret
      exact ⟨rfl, q, rfl⟩

/-- two empty slices, wherever they begin -/
theorem same_empty (a b : Option Addr) (ca cb : Nat) (w : World) :
    Calls Try.prog 8 #[.slice a 0 ca, .slice b 0 cb] w fun e w' => e = .returned (.bool true) ∧ w' = w := by
  go_enter Try.func8, Try.ntmps8
  go_wp2
  refine wp_loop_rounds 1 ?_
  rw [rounds_succ]
  go_wp2
  go_ret
  exact ⟨rfl, rfl⟩

theorem Try.info5 : (Try.prog.info? 5).map (fun i => (i.zero, i.size, i.bytes)) = some (some (.int .u8 0), 1, 1) := by kernel_rfl

theorem q22 (w : World) (a : Option Addr) (n c n' c' : Nat) : (binOp .eql 22 (.slice a n c) (.slice none n' c')).run Try.prog w = .ok (.bool a.isNone) w :=
  Lib.run_eql_slice_nil w _ _ a n c n' c' Try.underlying22

theorem clone_nil (w : World) :
    Calls Try.prog 6 #[.slice none 0 0] w fun e w' => e = .returned (.slice none 0 0) ∧ w' = w := by
  have hq := q22
  go_enter Try.func6, Try.ntmps6
  go_wp2
  go_ret
  exact ⟨rfl, rfl⟩

/-- what one store of the copying loop does to the row -/
theorem clone_step {w wr : World} {g len k : Nat} {ys : List Value} {zs : List Int} (hk : k < len)
    (hown : wr.ownsRow g 5 1 (.slice (some ⟨g, 0, none⟩) len len) len ys) (hy : ∀ i, i < k → ys[i]? = some (.int .u8 (zs.getD i 0))) (hb : Below g w wr) :
    (∃ ys', (wr.setCell ⟨g, k, none⟩ (.int .u8 (zs[k]?.getD 0))).ownsRow g 5 1 (.slice (some ⟨g, 0, none⟩) len len) len ys' ∧ ∀ i, i < k + 1 → ys'[i]? = some (.int .u8 (zs.getD i 0))) ∧
    Below g w (wr.setCell ⟨g, k, none⟩ (.int .u8 (zs[k]?.getD 0))) := by
  have hl : ys.length = len := by have := hown.1; omega
  refine ⟨⟨_, (hown.stored k _).1, fun i hi => ?_⟩, hb.setCell (Nat.le_refl _) _⟩
  by_cases e : i = k
  · subst e; simp [hl, hk]
  · rw [List.getElem?_set_ne (by omega)]; exact hy i (by omega)

set_option maxHeartbeats 800000 in
theorem clone_any (x : Addr) (len cap : Nat) (zs : List Int) (w : World) (hn : len ≤ 1048576) (hx : 0 < len → x.block < w.heap.size)
    (hc : ∀ i, i < len → w.cell? ⟨x.block, x.off + i, none⟩ = some (.int .u8 (zs.getD i 0))) :
    Calls Try.prog 6 #[.slice (some ⟨x.block, x.off, none⟩) len cap] w fun e w' => e = .returned (.slice (some ⟨w.heap.size, 0, none⟩) len len) ∧
      (∃ ys, w'.ownsRow w.heap.size 5 1 (.slice (some ⟨w.heap.size, 0, none⟩) len len) len ys ∧ ∀ i, i < len → ys[i]? = some (.int .u8 (zs.getD i 0))) ∧ Below w.heap.size w w' := by
  obtain ⟨i0, hi, hz0, hz1, hz2⟩ := info_parts Try.info5
  have hq := q22
  go_enter Try.func6, Try.ntmps6
  go_wp2_with (at_make; refine wpList_make_full _ rfl _ _ 22 rfl w.heap.size 5 i0 (.int .u8 0) 1 Try.underlying22 hi hz0 hz1 _ _ _ _ len rfl rfl rfl rfl ?b2 ?b3 ?b4 ?_)
  case b2 => rw [hz2]; omega
  case b3 => unfold maxLen; omega
  case b4 => exact Nat.le_refl _
  intro w1 hown hgrow
  have hbel := (Below.refl w.heap.size w).grown hgrow (Nat.le_refl _) (fun k hk => by cases hk)
  clear hgrow hi hz0 hz1 hz2
  go_wp2
  go_loopw [4] (fun i wr => ∃ k : Nat, k ≤ len ∧ i = .int .i64 k ∧ (∃ ys, wr.ownsRow w.heap.size 5 1 (.slice (some ⟨w.heap.size, 0, none⟩) len len) len ys ∧ ∀ i, i < k → ys[i]? = some (.int .u8 (zs.getD i 0))) ∧ Below w.heap.size w wr) (fun i _ => len - (intOf i).toNat)
  case atStart => exact ⟨0, Nat.zero_le _, rfl, ⟨_, hown, fun i hi => by omega⟩, hbel⟩
  case round =>
    obtain ⟨k, hk, rfl, ⟨ys, hown', hy⟩, hb⟩ := hrel
    by_cases hlt : k < len
    · have h1 := (hb.cell (p := ⟨x.block, x.off + k, none⟩) (hx (by omega))).trans (hc k hlt)
      have hl : ys.length = len := by have := hown'.1; omega
      have h2 : wr.cell? ⟨w.heap.size, k, none⟩ = some (ys[k]'(by omega)) := by rw [hown'.cellAt k (by omega)]; simp
      have h3 := hown'.frozenAt k
      have R := clone_step hlt hown' hy hb
      clear hc hown' hy hb hown hbel hq
      go_wp2
      go_roundw
      case rel => exact ⟨k + 1, by omega, by go_num, R.1, R.2⟩
      case measure => simp [intOf]; omega
    · have : k = len := by omega
      subst this
      clear hq
      go_wp2
      go_ret
      exact ⟨rfl, ⟨ys, hown', hy⟩, hb⟩
end Go.Proofs.Qxb6616866a
