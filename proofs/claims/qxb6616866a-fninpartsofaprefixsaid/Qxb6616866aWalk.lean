/-
  Seat b6616866a: the law's walk out of the callees' contracts.
-/
import Derived.Test.Qxb6616866aLaw
namespace Go.Proofs.Qxb6616866a
open Go.RowKit
set_option linter.unusedVariables false

theorem cnt_mono (k n : Nat) (h : k ≤ n) : cnt k ≤ cnt n := by
  unfold cnt; split <;> split <;> omega

theorem pl_full (n k j : Nat) (hk : k ≤ n) (h : j + 1 < cnt k) : 1185 * j + pl n j = 1185 * (j + 1) := by
  have := (lt_cnt k (j + 1)).1 h
  unfold pl; omega

theorem cells_at {w : World} {base e g n c : Nat} {xs : List Value} (h : w.ownsRow base e 1 (.slice (some ⟨g, 0, none⟩) n c) n xs) {j : Nat} {v : Value} (hj : j < n) (hv : xs[j]? = some v) : w.cell? ⟨g, j, none⟩ = some v :=
  (h.cellAt j (by omega)).trans hv

/-- all that the loop reads, in the world behind the two calls of ZZb1InParts -/
structure Reads (w : World) (A : Option Addr) (g0 n k gf gp hf hp : Nat) (z : Nat → Int) : Prop where
  wf : ∀ j, j < cnt n → w.cell? ⟨gf, j, none⟩ = some (.int .i64 (1185 * (j : Int) * 8))
  wp : ∀ j, j < cnt n → w.cell? ⟨gp, j, none⟩ = some (part A n n j)
  pf : ∀ j, j < cnt k → w.cell? ⟨hf, j, none⟩ = some (.int .i64 (1185 * (j : Int) * 8))
  pp : ∀ j, j < cnt k → w.cell? ⟨hp, j, none⟩ = some (part A k n j)
  by_ : 0 < n → A = some ⟨g0, 0, none⟩ ∧ ∀ i, i < n → w.cell? ⟨g0, i, none⟩ = some (.int .u8 (z i))

theorem reads_of {w w1 w2 w3 : World} {A : Option Addr} {n k gf gp hf hp cf cp df dp : Nat} {zs : List Int}
    (hA : 0 < n → A = some ⟨w.heap.size, 0, none⟩ ∧ w.heap.size < w1.heap.size ∧ ∀ i, i < n → w1.cell? ⟨w.heap.size, i, none⟩ = some (.int .u8 (zs.getD i 0)))
    (hof : w2.ownsRow (w1.heap.size + 2) 3 1 (.slice (some ⟨gf, 0, none⟩) (cnt n) cf) (cnt n) (firsts (cnt n)))
    (hop : w2.ownsRow (w1.heap.size + 2) 22 1 (.slice (some ⟨gp, 0, none⟩) (cnt n) cp) (cnt n) (parts A n n (cnt n))) (hb2 : Below w1.heap.size w1 w2)
    (hof' : w3.ownsRow (w2.heap.size + 2) 3 1 (.slice (some ⟨hf, 0, none⟩) (cnt k) df) (cnt k) (firsts (cnt k)))
    (hop' : w3.ownsRow (w2.heap.size + 2) 22 1 (.slice (some ⟨hp, 0, none⟩) (cnt k) dp) (cnt k) (parts A k n (cnt k))) (hb3 : Below w2.heap.size w2 w3) :
    Reads w3 A w.heap.size n k gf gp hf hp (fun i => zs.getD i 0) :=
  { wf := fun j hj => cells_at (ownsRow_below hof hb3) hj (firsts_get _ _ hj)
    wp := fun j hj => cells_at (ownsRow_below hop hb3) hj (parts_get _ _ _ _ _ hj)
    pf := fun j hj => cells_at hof' hj (firsts_get _ _ hj)
    pp := fun j hj => cells_at hop' hj (parts_get _ _ _ _ _ hj)
    by_ := fun h => ⟨(hA h).1, fun i hi => by
      have h1 := (hA h).2.1
      have h2 := hb2.size
      exact ((hb3.cell (p := ⟨w.heap.size, i, none⟩) (by show w.heap.size < w2.heap.size; omega)).trans (hb2.cell (p := ⟨w.heap.size, i, none⟩) h1)).trans ((hA h).2.2 i hi)⟩ }

theorem quiet_at {P : Program} {f : FuncId} {args : Array Value} {w : World} {a n : Nat} {v : Value}
    (h : Calls P f args (w.drewN (a + n)) fun e w' => e = .returned v ∧ ∃ m, w' = (w.drewN (a + n)).drewN m) : Calls P f args (w.drewN (a + n)) fun e w'' => e = .returned v ∧ ∃ m, w'' = w.drewN (a + m) :=
  h.mono fun _ _ ⟨he, m, hm⟩ => ⟨he, n + m, by rw [hm, World.drewN_drewN, Nat.add_assoc]⟩

theorem same_addr' (A : Option Addr) (n n2 ca cb : Nat) (w : World) (hn : n ≤ 1048576) (he : n2 = n)
    (h : 0 < n → ∃ b o, ∃ z : Nat → Int, A = some ⟨b, o, none⟩ ∧ ∀ i, i < n → w.cell? ⟨b, o + i, none⟩ = some (.int .u8 (z i))) :
    Calls Try.prog 8 #[.slice A n ca, .slice A n2 cb] w fun e w' => e = .returned (.bool true) ∧ ∃ q, w' = w.drewN q := by
  subst he; exact same_addr A n2 ca cb w hn h

/-- the bytes of part j, in whatever number of draws -/
theorem Reads.bytes {w : World} {A : Option Addr} {g0 n k gf gp hf hp : Nat} {z : Nat → Int} (R : Reads w A g0 n k gf gp hf hp z) (hk : k ≤ n) (j m : Nat) :
    0 < pl k j → ∃ b o, ∃ z : Nat → Int, A.map (fun x => x.add (1185 * j)) = some ⟨b, o, none⟩ ∧ ∀ i, i < pl k j → (w.drewN m).cell? ⟨b, o + i, none⟩ = some (.int .u8 (z i)) := by
  intro h
  have h1 : 1185 * j + pl k j ≤ k := by unfold pl at h ⊢; omega
  obtain ⟨hA, hc⟩ := R.by_ (by omega)
  refine ⟨g0, 1185 * j, fun i => z (1185 * j + i), by rw [hA]; simp [Addr.add]; omega, fun i hi => ?_⟩
  have := hc (1185 * j + i) (by omega)
  simpa using this

theorem Reads.bytes0 {w : World} {A : Option Addr} {g0 n k gf gp hf hp : Nat} {z : Nat → Int} (R : Reads w A g0 n k gf gp hf hp z) (hk : k ≤ n) (m : Nat) :
    0 < pl k 0 → ∃ b o, ∃ z : Nat → Int, A = some ⟨b, o, none⟩ ∧ ∀ i, i < pl k 0 → (w.drewN m).cell? ⟨b, o + i, none⟩ = some (.int .u8 (z i)) := by
  intro h
  have h1 : pl k 0 ≤ k := by unfold pl at h ⊢; omega
  obtain ⟨hA, hc⟩ := R.by_ (by omega)
  refine ⟨g0, 0, z, hA, fun i hi => ?_⟩
  have := hc i (by omega)
  simpa using this

theorem Try.size5 (w : World) : (sizeOf 5).run Try.prog w = .ok 1 w := by kernel_rfl

theorem sl_gen (A : Option Addr) (n lo hi : Nat) (x y : Int) (hx : x = (lo : Int)) (hy : y = (hi : Int)) (h : lo ≤ hi) (h' : hi ≤ n) (w : World) :
    (Instr.slice 22 (.slice A n n) (some (.int .i64 x)) (some (.int .i64 y)) none).run Try.prog w = .ok (.slice (if n = lo then A else A.map (fun x => x.add lo)) (hi - lo) (n - lo)) w := by
  subst hx hy
  have := run_slice_lh (P := Try.prog) w 22 A n n (by kernel_rfl) .i64 .i64 (lo : Int) (hi : Int) (by omega) (by omega) (by omega)
  rw [this]
  have e : Try.prog.elem 22 = 5 := by kernel_rfl
  rw [e, Try.size5]
  simp [Result.andThen, sliced]

theorem sl_pos (A : Option Addr) (n j L : Nat) (h : 1185 * j + L ≤ n) (h' : 1185 * j < n) (w : World) :
    (Instr.slice 22 (.slice A n n) (some (.int .i64 (1185 * (j : Int)))) (some (.int .i64 (1185 * (j : Int) + (L : Int)))) none).run Try.prog w = .ok (.slice (A.map (fun x => x.add (1185 * j))) L (n - 1185 * j)) w := by
  rw [sl_gen A n (1185 * j) (1185 * j + L) _ _ (by omega) (by omega) (by omega) h, if_neg (by omega)]
  simp

theorem sl_posk (A : Option Addr) (n j k : Nat) (h : 1185 * j ≤ k) (hk : k ≤ n) (h' : 1185 * j < n) (w : World) :
    (Instr.slice 22 (.slice A n n) (some (.int .i64 (1185 * (j : Int)))) (some (.int .i64 (k : Int))) none).run Try.prog w = .ok (.slice (A.map (fun x => x.add (1185 * j))) (k - 1185 * j) (n - 1185 * j)) w := by
  rw [sl_gen A n (1185 * j) k _ _ (by omega) (by omega) (by omega) hk, if_neg (by omega)]

theorem sl_zero (A : Option Addr) (n L : Nat) (h : L ≤ n) (w : World) :
    (Instr.slice 22 (.slice A n n) (some (.int .i64 0)) (some (.int .i64 (L : Int))) none).run Try.prog w = .ok (.slice A L n) w := by
  rw [sl_gen A n 0 L _ _ (by omega) (by omega) (by omega) h]
  have e : (fun x : Addr => x.add 0) = id := by funext x; simp [Addr.add]
  simp [e]

set_option maxRecDepth 100000 in
set_option maxHeartbeats 2000000 in
theorem walk_pos (a0 : Option Addr) (n cap0 k : Nat) (z0 : List Int) (w : World) (w0 : IsRow .u8 w a0 n cap0 z0) (hk : k ≤ n) (hn : n ≤ 1048576) (hk0 : 0 < k) :
    Calls Try.prog 4 #[.slice a0 n cap0, .int .i64 (k : Int)] w fun e w' => e = .returned (.bool true) ∧ Below w.heap.size w w' := by
  have hcm := cnt_mono k n hk
  have hcn := cnt_le n
  have hw1 : (cnt k : Int) ≤ ((k : Int) + 1185 - 1) / 1185 := by unfold cnt; split <;> omega
  have hw2 : ((k : Int) + 1185 - 1) / 1185 ≤ (cnt k : Int) := by unfold cnt; split <;> omega
  go_enter Try.func4, Try.ntmps4
  go_wp2_with fail
  refine (bytes_any _ _ _ _ _).mono ?_
  rintro e w ⟨rfl, rfl⟩
  go_wp2_with fail
  refine (clone_all _ _ _ _ _ w0 hn).mono ?_
  rintro e w1 ⟨A, rfl, hA, hb1⟩
  clear w0
  go_wp2_with fail
  refine (zz_any A n n w1 hn (Nat.le_refl _) hn).mono ?_
  rintro e w2 ⟨gf, cf, gp, cp, rfl, hof, hop, hb2⟩
  go_wp2_with fail
  refine (zz_any A k n w2 (by omega) hk hn).mono ?_
  rintro e w3 ⟨hf, df, hp, dp, rfl, hof', hop', hb3⟩
  have R := reads_of hA hof hop hb2 hof' hop' hb3
  have hbel : Below w.heap.size w w3 := hb1.trans ((hb2.mono hb1.size).trans (hb3.mono (Nat.le_trans hb1.size hb2.size)))
  clear hA hof hop hb2 hof' hop' hb3 hb1
  go_wp2
  go_loopw [11, 12] (fun o i wr => ∃ j x q : Nat, j ≤ cnt k ∧ i = .int .i64 j ∧ o = .int .i64 x ∧ (j < cnt k → x = 1185 * j) ∧ wr = w3.drewN q) (fun _ i _ => cnt k - (intOf i).toNat)
  case atStart => exact ⟨0, 0, 0, Nat.zero_le _, rfl, rfl, fun _ => rfl, rfl⟩
  case round =>
    obtain ⟨j, x, q, hj, rfl, rfl, hx, rfl⟩ := hrel
    by_cases hlt : j < cnt k
    · have hx := hx hlt
      have hl := (lt_cnt k j).1 hlt
      have e1 := R.wf j (by omega)
      have e2 := R.pf j hlt
      have e3 := R.wp j (by omega)
      have e4 := R.pp j hlt
      have HX : Hid (j + 1 < cnt k → 1185 * j + pl n j = 1185 * (j + 1)) := fun h => pl_full n k j hk h
      by_cases hj0 : j = 0
      · subst hj0
        obtain rfl : x = 0 := by omega
        have p1 : pl n 0 ≤ n := by unfold pl; omega
        have p2 : pl k 0 ≤ k := by unfold pl; omega
        have HC : Hid (∀ m, 0 < pl k 0 → ∃ b o, ∃ z : Nat → Int, A = some ⟨b, o, none⟩ ∧ ∀ i, i < pl k 0 → (w3.drewN m).cell? ⟨b, o + i, none⟩ = some (.int .u8 (z i))) := fun m => R.bytes0 hk m
        rw [part_zero] at e3 e4
        clear hx hl
        go_wp2
        go_quiet (fail)
        have hd : decide ((pl n 0 : Int) < 0) = false := by simp
        by_cases hle : pl n 0 ≤ k
        · have p4 : pl k 0 ≤ pl n 0 := by unfold pl at hle ⊢; omega
          have p5 : pl n 0 ≤ pl k 0 := by unfold pl at hle ⊢; omega
          have hsl := sl_zero A n (pl n 0) p1
          go_wp2
          go_quiet ((go_at_call 8; exact quiet_at (same_addr' _ _ _ _ _ _ (by omega) (by omega) (HC.out _))))
          go_wp2
          go_roundw
          case rel => exact ⟨1, pl n 0, _, by omega, by go_num, by go_num, fun h => by have := HX.out h; omega, rfl⟩
          case measure => simp [intOf]; omega
        · have p4 : k ≤ pl k 0 := by unfold pl at hle ⊢; omega
          have hd2 : decide ((k : Int) < 0) = false := by simp
          have hsl := sl_zero A n k hk
          go_wp2
          go_quiet ((go_at_call 8; exact quiet_at (same_addr' _ _ _ _ _ _ (by omega) (by omega) (HC.out _))))
          go_wp2
          go_roundw
          case rel => exact ⟨1, pl n 0, _, by omega, by go_num, by go_num, fun h => by have := HX.out h; omega, rfl⟩
          case measure => simp [intOf]; omega
      · subst hx
        have b1 : (1185 * (j : Int) * 8 != 8 * (1185 * (j : Int))) = false := by simp; omega
        go_wp2
        go_quiet (fail)
        rw [part_pos _ _ _ _ hj0] at e3 e4
        have p1 : 1185 * j + pl n j ≤ n := by unfold pl; omega
        have p2 : 1185 * j + pl k j ≤ k := by unfold pl; omega
        have p3 : 1185 * j < n := by omega
        have HC : Hid (∀ m, 0 < pl k j → ∃ b o, ∃ z : Nat → Int, A.map (fun x => x.add (1185 * j)) = some ⟨b, o, none⟩ ∧ ∀ i, i < pl k j → (w3.drewN m).cell? ⟨b, o + i, none⟩ = some (.int .u8 (z i))) := fun m => R.bytes hk j m
        by_cases hle : 1185 * j + pl n j ≤ k
        · have p4 : pl k j ≤ pl n j := by unfold pl at hle ⊢; omega
          have p5 : pl n j ≤ pl k j := by unfold pl at hle ⊢; omega
          have hd : decide (1185 * (j : Int) + (pl n j : Int) < 1185 * (j : Int)) = false := by simp; omega
          have hsl := sl_pos A n j (pl n j) p1 p3
          go_wp2
          go_quiet ((go_at_call 8; exact quiet_at (same_addr' _ _ _ _ _ _ (by omega) (by omega) (HC.out _))))
          go_wp2
          go_roundw
          case rel => exact ⟨j + 1, 1185 * j + pl n j, _, by omega, by go_num, by go_num, HX.out, rfl⟩
          case measure => simp [intOf]; omega
        · have p4 : k ≤ 1185 * j + pl k j := by unfold pl at hle ⊢; omega
          have hd : decide ((k : Int) < 1185 * (j : Int)) = false := by simp; omega
          have hsl := sl_posk A n j k (by omega) hk p3
          go_wp2
          go_quiet ((go_at_call 8; exact quiet_at (same_addr' _ _ _ _ _ _ (by omega) (by omega) (HC.out _))))
          go_wp2
          go_roundw
          case rel => exact ⟨j + 1, 1185 * j + pl n j, _, by omega, by go_num, by go_num, HX.out, rfl⟩
          case measure => simp [intOf]; omega
    · go_wp2
      go_ret
      exact ⟨rfl, below_drewN hbel q⟩

end Go.Proofs.Qxb6616866a
