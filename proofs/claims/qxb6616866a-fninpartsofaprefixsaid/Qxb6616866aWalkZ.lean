/-
  Seat b6616866a: the law's walk where the first k bytes are none.
-/
import Derived.Test.Qxb6616866aWalk
namespace Go.Proofs.Qxb6616866a
open Go.RowKit
set_option linter.unusedVariables false

set_option maxRecDepth 100000 in
set_option maxHeartbeats 2000000 in
theorem walk_zero (a0 : Option Addr) (n cap0 k : Nat) (z0 : List Int) (w : World) (w0 : IsRow .u8 w a0 n cap0 z0) (hk : k ≤ n) (hn : n ≤ 1048576) (hk0 : 3 * k ≤ 2) :
    Calls Try.prog 4 #[.slice a0 n cap0, .int .i64 (k : Int)] w fun e w' => e = .returned (.bool true) ∧ Below w.heap.size w w' := by
  have hcm := cnt_mono k n hk
  have hcn := cnt_le n
  have hw1 : (cnt k : Int) ≤ 1 := by unfold cnt; split <;> omega
  have hw2 : (1 : Int) ≤ (cnt k : Int) := by unfold cnt; split <;> omega
  go_enter Try.func4, Try.ntmps4
  go_wp2_with fail
  refine (bytes_any _ _ _ _ _).mono ?_
  rintro e w ⟨rfl, rfl⟩
  go_wp2_with fail
  refine (clone_all _ _ _ _ _ w0 hn).mono ?_
  rintro e w1 ⟨A, rfl, hA, hb1⟩
  clear w0
  go_wp2_with fail
  refine (zz_any A n n w1 hn (Nat.le_refl _) hn).mono ?_
  rintro e w2 ⟨gf, cf, gp, cp, rfl, hof, hop, hb2⟩
  go_wp2_with fail
  refine (zz_any A k n w2 (by omega) hk hn).mono ?_
  rintro e w3 ⟨hf, df, hp, dp, rfl, hof', hop', hb3⟩
  have R := reads_of hA hof hop hb2 hof' hop' hb3
  have hbel : Below w.heap.size w w3 := hb1.trans ((hb2.mono hb1.size).trans (hb3.mono (Nat.le_trans hb1.size hb2.size)))
  clear hA hof hop hb2 hof' hop' hb3 hb1
  go_wp2
  go_loopw [11, 12] (fun o i wr => ∃ j x q : Nat, j ≤ cnt k ∧ i = .int .i64 j ∧ o = .int .i64 x ∧ (j < cnt k → x = 1185 * j) ∧ wr = w3.drewN q) (fun _ i _ => cnt k - (intOf i).toNat)
  case atStart => exact ⟨0, 0, 0, Nat.zero_le _, rfl, rfl, fun _ => rfl, rfl⟩
  case round =>
    obtain ⟨j, x, q, hj, rfl, rfl, hx, rfl⟩ := hrel
    by_cases hlt : j < cnt k
    · have hx := hx hlt
      have hl := (lt_cnt k j).1 hlt
      have e1 := R.wf j (by omega)
      have e2 := R.pf j hlt
      have e3 := R.wp j (by omega)
      have e4 := R.pp j hlt
      have HX : Hid (j + 1 < cnt k → 1185 * j + pl n j = 1185 * (j + 1)) := fun h => pl_full n k j hk h
      by_cases hj0 : j = 0
      · subst hj0
        obtain rfl : x = 0 := by omega
        have p1 : pl n 0 ≤ n := by unfold pl; omega
        have p2 : pl k 0 ≤ k := by unfold pl; omega
        have HC : Hid (∀ m, 0 < pl k 0 → ∃ b o, ∃ z : Nat → Int, A = some ⟨b, o, none⟩ ∧ ∀ i, i < pl k 0 → (w3.drewN m).cell? ⟨b, o + i, none⟩ = some (.int .u8 (z i))) := fun m => R.bytes0 hk m
        rw [part_zero] at e3 e4
        clear hx hl
        go_wp2
        go_quiet (fail)
        have hd : decide ((pl n 0 : Int) < 0) = false := by simp
        by_cases hle : pl n 0 ≤ k
        · have p4 : pl k 0 ≤ pl n 0 := by unfold pl at hle ⊢; omega
          have p5 : pl n 0 ≤ pl k 0 := by unfold pl at hle ⊢; omega
          have hsl := sl_zero A n (pl n 0) p1
          go_wp2
          go_quiet ((go_at_call 8; exact quiet_at (same_addr' _ _ _ _ _ _ (by omega) (by omega) (HC.out _))))
          go_wp2
          go_roundw
          case rel => exact ⟨1, pl n 0, _, by omega, by go_num, by go_num, fun h => by have := HX.out h; omega, rfl⟩
          case measure => simp [intOf]; omega
        · have p4 : k ≤ pl k 0 := by unfold pl at hle ⊢; omega
          have hd2 : decide ((k : Int) < 0) = false := by simp
          have hsl := sl_zero A n k hk
          go_wp2
          go_quiet ((go_at_call 8; exact quiet_at (same_addr' _ _ _ _ _ _ (by omega) (by omega) (HC.out _))))
          go_wp2
          go_roundw
          case rel => exact ⟨1, pl n 0, _, by omega, by go_num, by go_num, fun h => by have := HX.out h; omega, rfl⟩
          case measure => simp [intOf]; omega
      · exfalso; omega
    · go_wp2
      go_ret
      exact ⟨rfl, below_drewN hbel q⟩

end Go.Proofs.Qxb6616866a
