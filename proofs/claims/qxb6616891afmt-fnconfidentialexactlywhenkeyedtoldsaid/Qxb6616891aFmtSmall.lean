/-
  Seat b6616891aF: the small callees by their contracts: zzBytes (4), ZZconfidential (5), zzHasZero (7); strconv.Itoa (11) in the form that the loop wants.
-/
import Derived.Test.Qxb6616891aFmtRows
import Derived.Test.Qxb6616891aFmtShelf
import Derived.Test.Qxb6616891aFmtFacts
import Derived.WalkKit
import Derived.Lib.ItoaLen
import Derived.WalkSpells
import Derived.WalkSmall
import Derived.WalkLawsBesides
import Derived.Deep.QuietTactic
import Derived.BigQuiet
namespace Go.Proofs.Qxb6616891aFmt
open Go.RowKit
set_option linter.unusedVariables false

theorem bytes_any (a : Option Addr) (len cap : Nat) (x y z : Int) (w : World) :
    Calls Tryf.prog 4 #[.slice a len cap, .int .i64 x, .int .i64 y, .int .i64 z] w fun e w' => e = .returned (.bool (decide (len ≤ 1048576))) ∧ w' = w := by
  by_cases h : len ≤ 1048576
  · have h1 : (len : Int) ≤ 1048576 := by omega
    go_enter Tryf.func4, Tryf.ntmps4
    go_wp2
    go_ret
    exact ⟨by simp [h], rfl⟩
  · have h1 : (1048576 : Int) < len := by omega
    go_enter Tryf.func4, Tryf.ntmps4
    go_wp2
    go_ret
    exact ⟨by simp [h], rfl⟩

theorem conf_any (a : Option Addr) (len cap : Nat) (x y z : Int) (w : World) :
    Calls Tryf.prog 5 #[.slice a len cap, .int .i64 x, .int .i64 y, .int .i64 z] w fun e w' => e = .returned (.bool (decide (0 < len))) ∧ Below w.heap.size w w' := by
  go_enter Tryf.func5, Tryf.ntmps5
  go_wp2
  go_ret
  exact ⟨by simp, (Below.refl _ _).alloc (Nat.le_refl _) _⟩

theorem ret_bool {a b : Bool} (h : a = b) : Ending.returned (.bool a) = .returned (.bool b) := by rw [h]

/-- is one of the first n numbers a nought? -/
def hz (z : Nat → Int) (n : Nat) : Bool := (List.range n).any fun i => z i == 0

theorem hz_false {z : Nat → Int} {n : Nat} : hz z n = false ↔ ∀ i, i < n → z i ≠ 0 := by
  unfold hz; simp
theorem hz_true {z : Nat → Int} {n k : Nat} (h : k < n) (h0 : z k = 0) : hz z n = true := by
  unfold hz; simp only [List.any_eq_true, List.mem_range, beq_iff_eq]; exact ⟨k, h, h0⟩

set_option maxHeartbeats 400000 in
theorem hasZero_any (b o n c : Nat) (z : Nat → Int) (w : World) (hn : n ≤ 4096) (hc : ∀ i, i < n → w.cell? ⟨b, o + i, none⟩ = some (.int .i64 (z i))) :
    Calls Tryf.prog 7 #[.slice (some ⟨b, o, none⟩) n c] w fun e w' => e = .returned (.bool (hz z n)) ∧ w' = w := by
  go_enter Tryf.func7, Tryf.ntmps7
  go_wp2
  go_loop [3] (fun i => ∃ k : Nat, k ≤ n ∧ i = .int .i64 k ∧ ∀ i, i < k → z i ≠ 0) (fun i => n - (intOf i).toNat)
  case atStart => exact ⟨0, Nat.zero_le _, rfl, fun i h => by omega⟩
  case round =>
    obtain ⟨k, hk, rfl, hno⟩ := hrel
    by_cases hlt : k < n
    · have h1 := hc k hlt
      have HN : Hid (∀ i, i < k → z i ≠ 0) := hno
      clear hc hno
      by_cases h0 : z k = 0
      · have hb : (z k == 0) = true := by simp [h0]
        have H0 : Hid (z k = 0) := h0
        clear h0
        go_wp2
        go_ret
        exact ⟨ret_bool (hz_true hlt H0.out).symm, rfl⟩
      · have hb : (z k == 0) = false := by simp [h0]
        have H0 : Hid (¬ z k = 0) := h0
        clear h0
        go_wp2
        go_round
        case rel => exact ⟨k + 1, by omega, by go_num, fun i hi => by
          by_cases e : i = k
          · subst e; exact H0.out
          · exact HN.out i (by omega)⟩
        case measure => simp [intOf]; omega
    · have HN : Hid (∀ i, i < k → z i ≠ 0) := hno
      clear hno
      go_wp2
      go_ret
      exact ⟨ret_bool (hz_false.2 (fun i hi => HN.out i (by omega))).symm, rfl⟩

theorem below_grow (w : World) (k : Nat) (os : Array Obj) : Below w.heap.size w (Go.Sort.grow (w.drewN k) os) :=
  ⟨rfl, rfl, rfl, by simp [Go.Sort.grow], fun j hj => by
    show (w.heap ++ os)[j]? = _
    exact Array.getElem?_append_left hj⟩

theorem gPow : Tryf.prog.globalNamed powName = some 0 := by kernel_rfl

theorem itoa_any (n : Int) (h0 : -9223372036854775808 ≤ n) (h1 : n ≤ 9223372036854775807) (w : World) (htab : Lib.TabIs Tryf.prog w powName .u64 Lib.pow10Tab) :
    Calls Tryf.prog 11 #[.int .i64 n] w fun e w' => ∃ s : ByteArray, e = .returned (.string s) ∧ s.size ≤ 21 ∧ Below w.heap.size w w' :=
  (Tryf.strconv_Itoa n h0 h1 w htab).mono fun e w' ⟨he, k, os, hw⟩ => ⟨_, he, by
    have := Lib.itoa_length_le n h0 h1
    simpa [ByteArray.size] using this, by rw [hw]; exact below_grow w k os⟩

theorem tab_below {w w' : World} (h : Lib.TabIs Tryf.prog w powName .u64 Lib.pow10Tab) (h0 : 0 < w.heap.size) (hb : Below w.heap.size w w') : Lib.TabIs Tryf.prog w' powName .u64 Lib.pow10Tab :=
  var?_below hb gPow h0 h
end Go.Proofs.Qxb6616891aFmt
