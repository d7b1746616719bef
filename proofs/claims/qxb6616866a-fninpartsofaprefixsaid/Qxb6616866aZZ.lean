/-
  Seat b6616866a: ZZb1InParts (7) by its contract.
-/
import Derived.Test.Qxb6616866aParts
namespace Go.Proofs.Qxb6616866a
open Go.RowKit
set_option linter.unusedVariables false

theorem inv_start (w : World) : Inv w.heap.size 0 [] [] ((w.alloc (.cells #[.slice none 0 0] 25)).alloc (.cells #[.slice none 0 0] 26)) := by
  refine ⟨by simp, .slice none 0 0, .slice none 0 0, ?_, ?_, World.ownsRow_nil _ _ _ _, World.ownsRow_nil _ _ _ _⟩
  · rw [Below.heap_alloc _ _ _ (by simp)]; exact heap_alloc_new _ _
  · have := heap_alloc_new (w.alloc (.cells #[.slice none 0 0] 25)) (.cells #[.slice none 0 0] 26)
    simpa using this

set_option maxRecDepth 100000 in
set_option maxHeartbeats 800000 in
theorem zz_any (a : Option Addr) (n c : Nat) (w : World) (hn : n ≤ 1048576) (hc : n ≤ c) (hc2 : c ≤ 1048576) :
    Calls Try.prog 7 #[.slice a n c] w fun e w' => ∃ gf cf gp cp,
      e = .returned (.tuple #[.slice (some ⟨gf, 0, none⟩) (cnt n) cf, .slice (some ⟨gp, 0, none⟩) (cnt n) cp]) ∧
      w'.ownsRow (w.heap.size + 2) 3 1 (.slice (some ⟨gf, 0, none⟩) (cnt n) cf) (cnt n) (firsts (cnt n)) ∧
      w'.ownsRow (w.heap.size + 2) 22 1 (.slice (some ⟨gp, 0, none⟩) (cnt n) cp) (cnt n) (parts a n c (cnt n)) ∧ Below w.heap.size w w' := by
  have h0 := inv_start w
  go_enter Try.func7, Try.ntmps7
  go_wp2_with (go_at_call 10; refine (inParts_any w.heap.size _ _ _ _ h0 hn hc hc2).mono ?_; rintro e w1 ⟨rfl, hinv, hbel⟩)
  obtain ⟨hB, vf, vp, hf, hp, hof, hop⟩ := hinv
  obtain ⟨m, hm⟩ : ∃ m, cnt n = m + 1 := ⟨cnt n - 1, by have := (lt_cnt n 0).2 (.inl rfl); omega⟩
  have HM : Hid (cnt n = m + 1) := hm
  rw [hm] at hof hop
  clear hm
  obtain ⟨gf, kf, rfl⟩ := row_shape hof
  obtain ⟨gp, kp, rfl⟩ := row_shape hop
  have cf := cell_of_one hf
  have ff := free_of_one hf
  have cp := cell_of_one hp
  have fp := free_of_one hp
  go_region
  go_wp2
  rw [HM.out]
  have k1 := one_setCell (u := .slice (some ⟨gf, 0, none⟩) (m + 1) kf) hf
  have k2 := (Below.heap_setCell w1 ⟨w.heap.size, 0, none⟩ (.slice (some ⟨gf, 0, none⟩) (m + 1) kf) (w.heap.size + 1) (by show w.heap.size + 1 ≠ w.heap.size; omega)).trans hp
  have k3 := one_setCell (u := .slice (some ⟨gp, 0, none⟩) (m + 1) kp) k2
  have k4 := (Below.heap_setCell (w1.setCell ⟨w.heap.size, 0, none⟩ (.slice (some ⟨gf, 0, none⟩) (m + 1) kf)) ⟨w.heap.size + 1, 0, none⟩ (.slice (some ⟨gp, 0, none⟩) (m + 1) kp) w.heap.size (by show w.heap.size ≠ w.heap.size + 1; omega)).trans k1
  have c3 := cell_of_one k3
  have c4 := cell_of_one k4
  refine bodyPost_ret (v := .tuple #[.slice (some ⟨gf, 0, none⟩) (m + 1) kf, .slice (some ⟨gp, 0, none⟩) (m + 1) kp]) (by simp [results, Try.results7, go_sem, c3, c4]) rfl ⟨gf, kf, gp, kp, rfl, ?_, ?_, ?_⟩
  · exact (ownsRow_setCell_below (ownsRow_setCell_below hof (by show w.heap.size < w.heap.size + 2; omega) _) (by show w.heap.size + 1 < w.heap.size + 2; omega) _).drew
  · exact (ownsRow_setCell_below (ownsRow_setCell_below hop (by show w.heap.size < w.heap.size + 2; omega) _) (by show w.heap.size + 1 < w.heap.size + 2; omega) _).drew
  · exact ((((((Below.refl w.heap.size w).alloc (Nat.le_refl _) _).alloc (by simp) _).trans hbel).setCell (Nat.le_refl _) _).setCell (by show w.heap.size ≤ w.heap.size + 1; omega) _).drew
end Go.Proofs.Qxb6616866a
