/-
  Seat b6616866a: the collecting closure (11), inParts (10), ZZb1InParts (7), each by its contract.
-/
import Derived.Test.Qxb6616866aSmall
import Derived.Test.Qxb6616866aPlain
namespace Go.Proofs.Qxb6616866a
open Go.RowKit
set_option linter.unusedVariables false

theorem Try.info3 : (Try.prog.info? 3).map (fun i => (i.zero, i.size, i.bytes)) = some (some (.int .i64 0), 1, 8) := by kernel_rfl
theorem Try.info22 : (Try.prog.info? 22).map (fun i => (i.zero, i.size, i.bytes)) = some (some (.slice none 0 0), 1, 24) := by kernel_rfl

/-- what the two captured variables hold: 'firsts' (block B) and 'parts' (block B + 1), each the owner of a row of the call's own -/
def Inv (B n : Nat) (fs ps : List Value) (w : World) : Prop :=
  B + 2 ≤ w.heap.size ∧ ∃ vf vp, w.heap[B]? = some (.cells #[vf] 25 (0, 0)) ∧ w.heap[B + 1]? = some (.cells #[vp] 26 (0, 0)) ∧
    w.ownsRow (B + 2) 3 1 vf n fs ∧ w.ownsRow (B + 2) 22 1 vp n ps

/-- rows of two element types lie in two blocks -/
theorem rows_apart {w : World} {B e e' n n' : Nat} {v v' : Value} {xs xs' : List Value} (hne : e ≠ e') (h : w.ownsRow B e 1 v n xs) (h' : w.ownsRow B e' 1 v' n' xs') :
    v'.ownBlock = none ∨ v'.ownBlock ≠ v.ownBlock := by
  rcases h'.2 with ⟨rfl, _⟩ | ⟨g', cap', cur', rfl, _, hh', _⟩
  · exact .inl rfl
  · right
    rcases h.2 with ⟨rfl, _⟩ | ⟨g, cap, cur, rfl, _, hh, _⟩
    · simp [Value.ownBlock]
    · simp only [Value.ownBlock, ne_eq, Option.some.injEq]
      intro e; subst e; rw [hh] at hh'; simp at hh'; exact hne hh'.2


/-- a one-cell block that is no row of the call's own, behind a law on append -/
theorem block_kept {w w1 : World} {B b e n : Nat} {v : Value} {xs : List Value} {o ob : Obj} (hb : b < B + 2) (hB : B + 2 ≤ w.heap.size) (hg : (w.alloc ob).grownBy w1 v.ownBlock)
    (hown : w.ownsRow (B + 2) e 1 v n xs) (h : w.heap[b]? = some o) : w1.heap[b]? = some o := by
  have hne : some b ≠ v.ownBlock := fun e => by have := hown.lt b e.symm; omega
  exact (hg.block b (by simp; omega) hne).trans ((Below.heap_alloc w ob b (by omega)).trans h)

theorem half_f {B n : Nat} {fs ps : List Value} {w w1 : World} {vf vp v' : Value} {x : Value} {ob : Obj} (hB : B + 2 ≤ w.heap.size) (hf : w.heap[B]? = some (.cells #[vf] 25 (0, 0))) (hp : w.heap[B + 1]? = some (.cells #[vp] 26 (0, 0)))
    (hof : w.ownsRow (B + 2) 3 1 vf n fs) (hop : w.ownsRow (B + 2) 22 1 vp n ps) (hown : w1.ownsRow (B + 2) 3 1 v' (n + 1) (fs ++ [x])) (hg : (w.alloc ob).grownBy w1 vf.ownBlock) :
    w1.heap[B]? = some (.cells #[vf] 25 (0, 0)) ∧ B + 2 ≤ (w1.setCell ⟨B, 0, none⟩ v').heap.size ∧
    (w1.setCell ⟨B, 0, none⟩ v').heap[B]? = some (.cells #[v'] 25 (0, 0)) ∧ (w1.setCell ⟨B, 0, none⟩ v').heap[B + 1]? = some (.cells #[vp] 26 (0, 0)) ∧
    (w1.setCell ⟨B, 0, none⟩ v').ownsRow (B + 2) 3 1 v' (n + 1) (fs ++ [x]) ∧ (w1.setCell ⟨B, 0, none⟩ v').ownsRow (B + 2) 22 1 vp n ps ∧ Below B w (w1.setCell ⟨B, 0, none⟩ v') := by
  have k1 := block_kept (by omega) hB hg hof hf
  have k2 := block_kept (by omega) hB hg hof hp
  have hsz := hg.size
  simp at hsz
  refine ⟨k1, by simp; omega, one_setCell k1, (Below.heap_setCell _ _ _ _ (by show B + 1 ≠ B; omega)).trans k2, ownsRow_setCell_below hown (by show B < B + 2; omega) _, ownsRow_setCell_below ((hop.alloc ob).kept hg (rows_apart (by decide) hof hop)) (by show B < B + 2; omega) _, ?_⟩
  exact (((Below.refl B w).alloc (by omega) ob).grown hg (by simp; omega) (fun k hk => by have := hof.lt k hk; omega)).setCell (Nat.le_refl _) _

theorem half_p {B n m : Nat} {fs ps : List Value} {w w1 : World} {vf vp v' : Value} {x : Value} {ob : Obj} (hB : B + 2 ≤ w.heap.size) (hf : w.heap[B]? = some (.cells #[vf] 25 (0, 0))) (hp : w.heap[B + 1]? = some (.cells #[vp] 26 (0, 0)))
    (hof : w.ownsRow (B + 2) 3 1 vf m fs) (hop : w.ownsRow (B + 2) 22 1 vp n ps) (hown : w1.ownsRow (B + 2) 22 1 v' (n + 1) (ps ++ [x])) (hg : (w.alloc ob).grownBy w1 vp.ownBlock) :
    w1.heap[B + 1]? = some (.cells #[vp] 26 (0, 0)) ∧ B + 2 ≤ (w1.setCell ⟨B + 1, 0, none⟩ v').heap.size ∧
    (w1.setCell ⟨B + 1, 0, none⟩ v').heap[B]? = some (.cells #[vf] 25 (0, 0)) ∧ (w1.setCell ⟨B + 1, 0, none⟩ v').heap[B + 1]? = some (.cells #[v'] 26 (0, 0)) ∧
    (w1.setCell ⟨B + 1, 0, none⟩ v').ownsRow (B + 2) 3 1 vf m fs ∧ (w1.setCell ⟨B + 1, 0, none⟩ v').ownsRow (B + 2) 22 1 v' (n + 1) (ps ++ [x]) ∧ Below B w (w1.setCell ⟨B + 1, 0, none⟩ v') := by
  have k1 := block_kept (by omega) hB hg hop hf
  have k2 := block_kept (by omega) hB hg hop hp
  have hsz := hg.size
  simp at hsz
  refine ⟨k2, by simp; omega, (Below.heap_setCell _ _ _ _ (by show B ≠ B + 1; omega)).trans k1, one_setCell k2, ownsRow_setCell_below ((hof.alloc ob).kept hg (rows_apart (by decide) hop hof)) (by show B + 1 < B + 2; omega) _, ownsRow_setCell_below hown (by show B + 1 < B + 2; omega) _, ?_⟩
  exact (((Below.refl B w).alloc (by omega) ob).grown hg (by simp; omega) (fun k hk => by have := hop.lt k hk; omega)).setCell (by show B ≤ B + 1; omega) _

/-- a row of at least one element: the value's shape -/
theorem row_shape {w : World} {B e n : Nat} {v : Value} {xs : List Value} (h : w.ownsRow B e 1 v (n + 1) xs) : ∃ g cap, v = .slice (some ⟨g, 0, none⟩) (n + 1) cap := by
  rcases h.2 with ⟨_, h0⟩ | ⟨g, cap, cur, hv, _⟩
  · omega
  · exact ⟨g, cap, hv⟩

set_option maxHeartbeats 800000 in
theorem closure_any (B n : Nat) (fs ps : List Value) (first : Int) (s : Option Addr) (ls cs : Nat) (w : World) (hinv : Inv B n fs ps w) (hn : n ≤ 1048576) :
    Calls Try.prog 11 #[.int .i64 first, .slice s ls cs, .pointer (some ⟨B, 0, none⟩), .pointer (some ⟨B + 1, 0, none⟩)] w fun e w' =>
      e = .returned (.tuple #[]) ∧ Inv B (n + 1) (fs ++ [.int .i64 first]) (ps ++ [.slice s ls cs]) w' ∧ Below B w w' := by
  obtain ⟨hB, vf, vp, hf, hp, hof, hop⟩ := hinv
  obtain ⟨i0, hi, hz0, hz1, hz2⟩ := info_parts Try.info3
  obtain ⟨j0, hj, hy0, hy1, hy2⟩ := info_parts Try.info22
  have cf := cell_of_one hf
  have ff := free_of_one hf
  go_enter Try.func11, Try.ntmps11
  go_wp2_with (at_builtin; refine wpList_append_own _ rfl (.tmp 6) (.tmp 8) 25 rfl (B + 2) 3 i0 (.int .i64 0) 1 8 Try.underlying25 hi hz0 hz1 hz2 rfl (by decide) _ _ _ rfl (hof.alloc _) ⟨w.heap.size, 0, none⟩ 1 1 [.int .i64 first] rfl rfl ?c1 ?c2 ?c3 ?c4 ?c5 ?_)
  case c1 => exact cell_one_new _ _ _
  case c2 => intro u hu; simp at hu; subst hu; rfl
  case c3 => unfold maxLen; omega
  case c4 => omega
  case c5 => simp; omega
  intro v' w1 hown hgrow _
  obtain ⟨g, cap, rfl⟩ := row_shape hown
  obtain ⟨k1, hB2, hf2, hp2, hof2, hop2, hbel2⟩ := half_f hB hf hp hof hop hown hgrow
  clear hgrow hown hop hof hf hp cf ff hi hz0 hz1 hz2
  have cf := cell_of_one k1
  have ff := free_of_one k1
  have cp := cell_of_one hp2
  have fp := free_of_one hp2
  go_wp2_with (at_builtin; refine wpList_append_own _ rfl (.tmp 10) (.tmp 12) 26 rfl (B + 2) 22 j0 (.slice none 0 0) 1 24 Try.underlying26 hj hy0 hy1 hy2 rfl (by decide) _ _ _ rfl (hop2.alloc _) ⟨w1.heap.size, 0, none⟩ 1 1 [.slice s ls cs] rfl rfl ?d1 ?d2 ?d3 ?d4 ?d5 ?_)
  case d1 =>
    have hs : (w1.setCell ⟨B, 0, none⟩ (.slice (some ⟨g, 0, none⟩) (n + 1) cap)).heap.size = w1.heap.size := by simp
    rw [← hs]; exact cell_one_new _ _ _
  case d2 => intro u hu; simp at hu; subst hu; rfl
  case d3 => unfold maxLen; omega
  case d4 => omega
  case d5 => simp at hB2 ⊢; omega
  intro v2 w2 hown hgrow _
  obtain ⟨g2, cap2, rfl⟩ := row_shape hown
  obtain ⟨k2, hB3, hf3, hp3, hof3, hop3, hbel3⟩ := half_p hB2 hf2 hp2 hof2 hop2 hown hgrow
  clear hgrow hown hop2 hof2 hf2 hp2 cf ff cp fp hj hy0 hy1 hy2
  have cp := cell_of_one k2
  have fp := free_of_one k2
  go_wp2
  go_end0
  exact ⟨rfl, ⟨hB3, _, _, hf3, hp3, hof3, hop3⟩, hbel2.trans hbel3⟩

theorem step_parts {B k : Nat} {a : Option Addr} {n c : Nat} {w : World} {v x : Value} (h : Inv B (k + 1) (firsts k ++ [v]) (parts a n c k ++ [x]) w) (hv : v = firstOf k) (hx : x = part a n c k) :
    Inv B (k + 1) (firsts (k + 1)) (parts a n c (k + 1)) w := by
  subst hv hx; rw [firsts_succ, parts_succ]; exact h

set_option maxRecDepth 100000 in
set_option maxHeartbeats 800000 in
theorem inParts_any (B : Nat) (a : Option Addr) (n c : Nat) (w : World) (hinv : Inv B 0 [] [] w) (hn : n ≤ 1048576) (hc : n ≤ c) (hc2 : c ≤ 1048576) :
    Calls Try.prog 10 #[.slice a n c, .func (.func 11) #[] #[.pointer (some ⟨B, 0, none⟩), .pointer (some ⟨B + 1, 0, none⟩)]] w fun e w' =>
      e = .returned (.tuple #[]) ∧ Inv B (cnt n) (firsts (cnt n)) (parts a n c (cnt n)) w' ∧ Below B w w' := by
  have hcl := cnt_le n
  go_enter Try.func10, Try.ntmps10
  go_wp2
  go_loopw [4] (fun i wr => ∃ k : Nat, k ≤ cnt n ∧ i = .int .i64 (1185 * k) ∧ Inv B k (firsts k) (parts a n c k) wr ∧ Below B w wr) (fun i _ => 1185 * cnt n - (intOf i).toNat)
  case atStart => exact ⟨0, Nat.zero_le _, rfl, hinv, Below.refl _ _⟩
  case round =>
    obtain ⟨k, hk, rfl, hinv', hbel⟩ := hrel
    have hlc := lt_cnt n k
    by_cases h0 : k = 0
    · subst h0
      by_cases hm : n ≤ 1185
      · go_wp2_with (go_at_call 11; refine (closure_any B 0 _ _ _ _ _ _ _ hinv' (by omega)).mono ?_; rintro e w2 ⟨rfl, hinv2, hb2⟩)
        go_roundw
        case rel => exact ⟨1, (lt_cnt n 0).2 (.inl rfl), by go_num, step_parts hinv2 rfl (by simp [part, pl]; omega), hbel.trans hb2⟩
        case measure => have := (lt_cnt n 0).2 (.inl rfl); simp [intOf]; omega
      · go_wp2_with (go_at_call 11; refine (closure_any B 0 _ _ _ _ _ _ _ hinv' (by omega)).mono ?_; rintro e w2 ⟨rfl, hinv2, hb2⟩)
        go_roundw
        case rel => exact ⟨1, (lt_cnt n 0).2 (.inl rfl), by go_num, step_parts hinv2 rfl (by simp [part, pl]; omega), hbel.trans hb2⟩
        case measure => have := (lt_cnt n 0).2 (.inl rfl); simp [intOf]; omega
    · by_cases hlt : 1185 * k < n
      · by_cases hm : n ≤ 1185 * k + 1185
        · go_wp2_with (go_at_call 11; refine (closure_any B k _ _ _ _ _ _ _ hinv' (by omega)).mono ?_; rintro e w2 ⟨rfl, hinv2, hb2⟩)
          go_roundw
          case rel => exact ⟨k + 1, (lt_cnt n k).2 (.inr hlt), by go_num, step_parts hinv2 rfl (by simp [part, pl, h0]; omega), hbel.trans hb2⟩
          case measure => have := (lt_cnt n k).2 (.inr hlt); simp [intOf]; omega
        · go_wp2_with (go_at_call 11; refine (closure_any B k _ _ _ _ _ _ _ hinv' (by omega)).mono ?_; rintro e w2 ⟨rfl, hinv2, hb2⟩)
          go_roundw
          case rel => exact ⟨k + 1, (lt_cnt n k).2 (.inr hlt), by go_num, step_parts hinv2 rfl (by simp [part, pl, h0]; omega), hbel.trans hb2⟩
          case measure => have := (lt_cnt n k).2 (.inr hlt); simp [intOf]; omega
      · have e : k = cnt n := by omega
        have E : Hid (k = cnt n) := e
        have hz : (1185 * (k : Int) == 0) = false := by simp; omega
        clear hlc e
        go_wp2
        go_end0
        have e := E.out
        subst e
        exact ⟨rfl, hinv', hbel⟩
end Go.Proofs.Qxb6616866a
