/-
  Seat b6616891aF: checkKeyLen (9) by its contract, at one fixed name and a nil key.
-/
import Derived.Test.Qxb6616891aFmtSmall
namespace Go.Proofs.Qxb6616891aFmt
open Go.RowKit Go.Extern.Stop Go.Stop Go.Extern
set_option linter.unusedVariables false

attribute [local go_sem] Tryf.call12 Tryf.guard Tryf.fmt0 Tryf.fmt0r Tryf.op9_115 Tryf.op9_115w Tryf.op3_100 Tryf.op3_100w Tryf.ptr38 Tryf.elem38 Tryf.isError38

theorem check_empty (a : Option Addr) (c : Nat) (w : World) :
    Calls Tryf.prog 9 #[.string ⟨#[97, 108, 103]⟩, .slice none 0 0, .slice a 0 c] w fun e w' => e = .returned .nilIface ∧ w' = w := by
  go_enter Tryf.func9, Tryf.ntmps9
  go_wp2
  go_ret
  exact ⟨rfl, rfl⟩

set_option maxHeartbeats 400000 in
theorem errorf_any (F : Interp) (x y : ByteArray) (n : Int) (b : Nat) (w : World) (hF : F.answers w.tape)
    (c0 : w.cell? ⟨b, 0, none⟩ = some (.iface 9 (.string x))) (c1 : w.cell? ⟨b, 1, none⟩ = some (.iface 9 (.string y))) (c2 : w.cell? ⟨b, 2, none⟩ = some (.iface 3 (.int .i64 n))) :
    Calls Tryf.prog 10 #[.string ⟨#[37, 115, 32, 116, 97, 107, 101, 115, 32, 37, 115, 32, 98, 121, 116, 101, 115, 44, 32, 103, 111, 116, 32, 37, 100]⟩, .slice (some ⟨b, 0, none⟩) 3 3] w fun e w' =>
      ∃ a, e = .returned (.iface 38 (.pointer (some a))) ∧ Below w.heap.size w w' := by
  have hF' := answers_open hF
  go_enter Tryf.func10, Tryf.ntmps10
  go_wp2
  go_ret
  exact ⟨_, rfl, ((Below.refl _ _).alloc (Nat.le_refl _) _).drew⟩

theorem size_app (a b : ByteArray) : (a ++ b).size = a.size + b.size := ByteArray.size_append

set_option maxRecDepth 100000 in
set_option maxHeartbeats 1600000 in
theorem check_any (F : Interp) (b o n c : Nat) (z : Nat → Int) (w : World) (hF : F.answers w.tape) (hn : n ≤ 4096) (hn0 : 0 < n)
    (hc : ∀ i, i < n → w.cell? ⟨b, o + i, none⟩ = some (.int .i64 (z i))) (hzb : ∀ i, i < n → -9223372036854775808 ≤ z i ∧ z i ≤ 9223372036854775807)
    (htab : Lib.TabIs Tryf.prog w powName .u64 Lib.pow10Tab) :
    Calls Tryf.prog 9 #[.string ⟨#[97, 108, 103]⟩, .slice none 0 0, .slice (some ⟨b, o, none⟩) n c] w fun e w' =>
      Below w.heap.size w w' ∧ ((hz z n = true ∧ e = .returned .nilIface) ∨ (hz z n = false ∧ ∃ a, e = .returned (.iface 38 (.pointer (some a))))) := by
  have hb : b < w.heap.size := World.block_lt_of_cell? _ _ (hc 0 hn0)
  have hw0 : 0 < w.heap.size := by omega
  have hne : ((n : Int) == 0) = false := by simp; omega
  go_enter Tryf.func9, Tryf.ntmps9
  go_wp2
  go_loopw [7, 25] (fun v i wr => ∃ k : Nat, k ≤ n ∧ i = .int .i64 k ∧ (∃ s : ByteArray, v = .string s ∧ s.size ≤ 30 * k) ∧ (∀ i, i < k → z i ≠ 0) ∧ Below w.heap.size w wr) (fun _ i _ => n - (intOf i).toNat)
  case atStart => exact ⟨0, Nat.zero_le _, rfl, ⟨_, rfl, Nat.le_refl _⟩, fun i h => by omega, Below.refl _ _⟩
  case round =>
    obtain ⟨k, hk, rfl, ⟨s, rfl, hs⟩, hno, hbel⟩ := hrel
    have HN : Hid (∀ i, i < k → z i ≠ 0) := hno
    clear hno
    by_cases hlt : k < n
    · have h1 := (hbel.cell (p := ⟨b, o + k, none⟩) hb).trans (hc k hlt)
      have h2 := hzb k hlt
      have HT := tab_below htab hw0 hbel
      clear hc hzb
      by_cases h0 : z k = 0
      · have hb : (0 == z k) = true := by simp [h0]
        have H0 : Hid (z k = 0) := h0
        clear h0
        go_wp2
        go_ret
        exact ⟨hbel, .inl ⟨hz_true hlt H0.out, rfl⟩⟩
      · have hb : (0 == z k) = false := by simp; omega
        have H0 : Hid (¬ z k = 0) := h0
        have HN' : Hid (∀ i, i < k + 1 → z i ≠ 0) := fun i hi => by
          by_cases e : i = k
          · subst e; exact h0
          · exact HN.out i (by omega)
        clear h0
        by_cases hk0 : k = 0
        · subst hk0
          simp only [Nat.add_zero] at h1
          go_wp2_with (go_at_call 11; refine (itoa_any _ (by omega) (by omega) _ HT).mono ?_; rintro e w2 ⟨s2, rfl, hs2, hb2⟩)
          go_roundw
          case rel => exact ⟨1, by omega, by go_num, ⟨_, rfl, by rw [size_app]; omega⟩, HN'.out, hbel.trans (hb2.mono hbel.size)⟩
          case measure => simp [intOf]; omega
        · have hk1 : ((k : Int) == 0) = false := by simp; omega
          by_cases hkl : k = n - 1
          · have hk2 : ((k : Int) == (n : Int) - 1) = true := by simp; omega
            have HK : Hid (k = n - 1) := hkl
            clear hkl
            go_wp2_with (go_at_call 11; refine (itoa_any _ (by omega) (by omega) _ HT).mono ?_; rintro e w2 ⟨s2, rfl, hs2, hb2⟩)
            go_roundw
            case rel => exact ⟨k + 1, by omega, by go_num, ⟨_, rfl, by rw [size_app, size_app, show (⟨#[32, 111, 114, 32]⟩ : ByteArray).size = 4 from rfl]; omega⟩, HN'.out, hbel.trans (hb2.mono hbel.size)⟩
            case measure => simp [intOf]; omega
          · have hk2 : ((k : Int) == (n : Int) - 1) = false := by simp; omega
            have HK : Hid (¬ k = n - 1) := hkl
            clear hkl
            go_wp2_with (go_at_call 11; refine (itoa_any _ (by omega) (by omega) _ HT).mono ?_; rintro e w2 ⟨s2, rfl, hs2, hb2⟩)
            go_roundw
            case rel => exact ⟨k + 1, by omega, by go_num, ⟨_, rfl, by rw [size_app, size_app, show (⟨#[44, 32]⟩ : ByteArray).size = 2 from rfl]; omega⟩, HN'.out, hbel.trans (hb2.mono hbel.size)⟩
            case measure => simp [intOf]; omega
    · have hFr : F.answers wr.tape := by rw [hbel.tape]; exact hF
      clear hc hzb htab
      go_wp2_with fail
      refine (errorf_any F ⟨#[97, 108, 103]⟩ s 0 wr.heap.size _ (by exact hFr) (by go_simp) (by go_simp) (by go_simp)).mono ?_
      rintro e w2 ⟨a, rfl, hb2⟩
      go_wp2
      go_ret
      exact ⟨(hbel.alloc hbel.size _).trans (hb2.mono (by have := hbel.size; simp; omega)), .inr ⟨hz_false.2 (fun i hi => HN.out i (by omega)), a, rfl⟩⟩

theorem zzcheck_empty (a : Option Addr) (c : Nat) (w : World) :
    Calls Tryf.prog 6 #[.string ⟨#[97, 108, 103]⟩, .slice none 0 0, .slice a 0 c] w fun e w' => e = .returned .nilIface ∧ w' = w := by
  go_enter Tryf.func6, Tryf.ntmps6
  go_wp2_with (go_at_call 9; refine (check_empty _ _ _).mono ?_; rintro e w ⟨rfl, rfl⟩)
  go_ret
  exact ⟨rfl, rfl⟩

theorem zzcheck_any (F : Interp) (b o n c : Nat) (z : Nat → Int) (w : World) (hF : F.answers w.tape) (hn : n ≤ 4096) (hn0 : 0 < n)
    (hc : ∀ i, i < n → w.cell? ⟨b, o + i, none⟩ = some (.int .i64 (z i))) (hzb : ∀ i, i < n → -9223372036854775808 ≤ z i ∧ z i ≤ 9223372036854775807)
    (htab : Lib.TabIs Tryf.prog w powName .u64 Lib.pow10Tab) :
    Calls Tryf.prog 6 #[.string ⟨#[97, 108, 103]⟩, .slice none 0 0, .slice (some ⟨b, o, none⟩) n c] w fun e w' =>
      Below w.heap.size w w' ∧ ((hz z n = true ∧ e = .returned .nilIface) ∨ (hz z n = false ∧ ∃ a, e = .returned (.iface 38 (.pointer (some a))))) := by
  have K := check_any F b o n c z w hF hn hn0 hc hzb htab
  clear hF hc hzb htab
  go_enter Tryf.func6, Tryf.ntmps6
  go_wp2_with fail
  refine K.mono ?_
  rintro e w' ⟨hb, ⟨hq, rfl⟩ | ⟨hq, a, rfl⟩⟩
  · have HZ : Hid (hz z n = true) := hq
    clear hq K
    go_wp2
    go_ret
    exact ⟨hb, .inl ⟨HZ.out, rfl⟩⟩
  · have HZ : Hid (hz z n = false) := hq
    clear hq K
    go_wp2
    go_ret
    exact ⟨hb, .inr ⟨HZ.out, a, rfl⟩⟩
end Go.Proofs.Qxb6616891aFmt
