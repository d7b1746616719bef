/-
  Seat b6616891aF: the law's walk where a key length is listed.
-/
import Derived.Test.Qxb6616891aFmtWalk
namespace Go.Proofs.Qxb6616891aFmt
open Go.RowKit Go.Extern.Stop Go.Stop Go.Extern
set_option linter.unusedVariables false

/-- the made row, as a block -/
theorem row_block {w : World} {g n : Nat} {xs : List Value} (h : w.ownsRow g 3 1 (.slice (some ⟨g, 0, none⟩) n n) n xs) :
    ∃ cur : List Value, w.heap[g]? = some (.cells cur.toArray 3 (0, 0)) ∧ cur.length = n := by
  rcases h.2 with ⟨h0, _⟩ | ⟨g', cap, cur, hv, _, hh, _, _, hs, _⟩
  · cases h0
  · cases hv
    exact ⟨cur.toList, by simpa using hh, by simp; omega⟩

theorem splice_all {α : Type} (L cs : List α) (h : cs.length = L.length) : splice L 0 cs = cs := by
  unfold splice; simp [h]

set_option maxRecDepth 100000 in
set_option maxHeartbeats 1600000 in
theorem walk_some (F : Interp) (b o n c0 : Nat) (zs : List Int) (x y z : Int) (w : World) (hF : F.answers w.tape) (hn : n ≤ 4096) (hn0 : 0 < n) (hzl : n ≤ zs.length)
    (hc : ∀ i, i < n → w.cell? ⟨b, o + i, none⟩ = some (.int .i64 (zs.getD i 0))) (hzb : ∀ i, i < n → -9223372036854775808 ≤ zs.getD i 0 ∧ zs.getD i 0 ≤ 9223372036854775807)
    (htab : Lib.TabIs Tryf.prog w powName .u64 Lib.pow10Tab) :
    Calls Tryf.prog 3 #[.slice (some ⟨b, o, none⟩) n c0, .int .i64 x, .int .i64 y, .int .i64 z] w fun e w' => e = .returned (.bool true) ∧ Below w.heap.size w w' := by
  have hb0 : b < w.heap.size := World.block_lt_of_cell? _ _ (hc 0 hn0)
  have hq := q22
  have hnb : n ≤ 1048576 := by omega
  obtain ⟨i0, hi, hz0, hz1, hz2⟩ := info_parts Tryf.info3
  obtain ⟨cs, hcs⟩ : ∃ cs : List Value, cs = (zs.take n).map (Value.int .i64) := ⟨_, rfl⟩
  have hcl : cs.length = n := by rw [hcs]; simp; omega
  have hci : ∀ i, i < n → cs[i]? = some (.int .i64 (zs.getD i 0)) := fun i hi => by
    rw [hcs]
    simp only [List.getElem?_map, List.getElem?_take_of_lt hi, List.getD]
    rw [List.getElem?_eq_getElem (by omega)]; simp
  have hc1 : ∀ v ∈ cs, v.oneCell' = true := fun v hv => by rw [hcs] at hv; exact ints_oneCell _ _ v hv
  have HCS : Hid (cs.length = n ∧ (∀ i, i < n → cs[i]? = some (.int .i64 (zs.getD i 0))) ∧ ∀ v ∈ cs, v.oneCell' = true) := ⟨hcl, hci, hc1⟩
  have HC : Hid (∀ i, i < n → w.cell? ⟨b, o + i, none⟩ = some (.int .i64 (zs.getD i 0))) := hc
  have HZ : Hid (∀ i, i < n → -9223372036854775808 ≤ zs.getD i 0 ∧ zs.getD i 0 ≤ 9223372036854775807) := hzb
  clear hcs hcl hci hc1 hc hzb
  go_enter Tryf.func3, Tryf.ntmps3
  go_wp2_with fail
  refine (bytes_any _ _ _ _ _ _ _).mono ?_
  rintro e w ⟨rfl, rfl⟩
  go_wp2_with (at_make; refine wpList_make_full _ rfl _ _ 22 rfl w.heap.size 3 i0 (.int .i64 0) 1 Tryf.underlying22 hi hz0 hz1 _ _ _ _ n rfl rfl rfl rfl ?b2 ?b3 ?b4 ?_)
  case b2 => rw [hz2]; omega
  case b3 => unfold maxLen; omega
  case b4 => exact Nat.le_refl _
  intro w1 hown hgrow
  have hbel := (Below.refl w.heap.size w).grown hgrow (Nat.le_refl _) (fun k hk => by cases hk)
  obtain ⟨cur, hcur, hcurl⟩ := row_block hown
  have HL : Hid (cur.length = n) := hcurl
  clear hgrow hown hi hz0 hz1 hz2 hq hcurl
  go_wp2_with (refine wpList_copy_splice rfl (.tmp 27) (.tmp 28) 22 22 rfl 3 Tryf.underlying22 (by kernel_rfl) (some ⟨w.heap.size, 0, none⟩) (some ⟨b, o, none⟩) n n n c0 rfl rfl w.heap.size 0 cur 3 hcur cs ?e1 ?e2 ?e3 ?e4 w.heap.size w hbel (Nat.le_refl _) ?_)
  case e1 => rw [HCS.out.1]; simp
  case e2 =>
    intro _ j v hj
    have hjn : j < n := by have := (List.getElem?_eq_some_iff.1 hj).1; rw [HCS.out.1] at this; exact this
    have e1 := HCS.out.2.1 j hjn
    rw [hj] at e1
    rw [e1]
    exact (hbel.cell (p := ⟨b, o + j, none⟩) hb0).trans (HC.out j hjn)
  case e3 => rw [HCS.out.1, HL.out]; omega
  case e4 => exact HCS.out.2.2
  intro w2 hw2 hb2
  have hcell : ∀ i, i < n → w2.cell? ⟨w.heap.size, 0 + i, none⟩ = some (.int .i64 (zs.getD i 0)) := fun i hi => by
    have e := hw2.out
    rw [splice_all _ _ (by rw [HCS.out.1, HL.out])] at e
    have e1 := HCS.out.2.1 i hi
    simp only [World.cell?, e, Nat.zero_add]
    simpa using e1
  have HC2 : Hid (∀ i, i < n → w2.cell? ⟨w.heap.size, 0 + i, none⟩ = some (.int .i64 (zs.getD i 0))) := hcell
  clear hcur hcell hbel
  go_wp2_with fail
  refine (conf_any _ _ _ _ _ _ _).mono ?_
  rintro e w3 ⟨rfl, hb3⟩
  have hlt2 : w.heap.size < w2.heap.size := lt_of_block hw2.out
  have hF3 : F.answers w3.tape := by rw [hb3.tape, hb2.tape]; exact hF
  have HC3 : Hid (∀ i, i < n → w3.cell? ⟨w.heap.size, 0 + i, none⟩ = some (.int .i64 (zs.getD i 0))) := fun i hi => (hb3.cell (p := ⟨w.heap.size, 0 + i, none⟩) hlt2).trans (HC2.out i hi)
  have ht3 := tab_below (tab_below htab (by omega) hb2) (by omega) hb3
  have hbel : Below w.heap.size w w3 := hb2.trans (hb3.mono hb2.size)
  have hlt3 : w.heap.size < w3.heap.size := by have := hb3.size; omega
  clear hb2 hb3 hw2 HC2 htab hF hlt2
  go_wp2_with fail
  refine (zzcheck_any F w.heap.size 0 n n (fun i => zs.getD i 0) w3 hF3 hn hn0 HC3.out HZ.out ht3).mono ?_
  rintro e w4 ⟨hb4, ⟨hq, rfl⟩ | ⟨hq, a, rfl⟩⟩
  · have hbel4 : Below w.heap.size w w4 := hbel.trans (hb4.mono hbel.size)
    have HC4 : Hid (∀ i, i < n → w4.cell? ⟨w.heap.size, 0 + i, none⟩ = some (.int .i64 (zs.getD i 0))) := fun i hi => (hb4.cell (p := ⟨w.heap.size, 0 + i, none⟩) hlt3).trans (HC3.out i hi)
    clear hb4 HC3 hF3 ht3 hbel
    go_wp2_with (go_at_call 7; refine (hasZero_any w.heap.size 0 n n (fun i => zs.getD i 0) w4 hn HC4.out).mono ?_; rintro e w5 ⟨rfl, rfl⟩)
    go_ret
    exact ⟨ret_bool hq, hbel4⟩
  · have hbel4 : Below w.heap.size w w4 := hbel.trans (hb4.mono hbel.size)
    have HC4 : Hid (∀ i, i < n → w4.cell? ⟨w.heap.size, 0 + i, none⟩ = some (.int .i64 (zs.getD i 0))) := fun i hi => (hb4.cell (p := ⟨w.heap.size, 0 + i, none⟩) hlt3).trans (HC3.out i hi)
    clear hb4 HC3 hF3 ht3 hbel
    go_wp2_with (go_at_call 7; refine (hasZero_any w.heap.size 0 n n (fun i => zs.getD i 0) w4 hn HC4.out).mono ?_; rintro e w5 ⟨rfl, rfl⟩)
    go_ret
    exact ⟨ret_bool (by
      have e : hz (fun i => zs[i]?.getD 0) n = false := hq
      rw [e]; rfl), hbel4⟩

/-- THE LAW'S WALK, whatever the slice -/
theorem walk (F : Interp) (a0 : Option Addr) (n c0 : Nat) (zs : List Int) (x y z : Int) (w : World) (hF : F.answers w.tape) (h0 : IsRow w a0 n c0 zs)
    (htab : Lib.TabIs Tryf.prog w powName .u64 Lib.pow10Tab) :
    Calls Tryf.prog 3 #[.slice a0 n c0, .int .i64 x, .int .i64 y, .int .i64 z] w fun e w' => e = .returned (.bool true) ∧ Below w.heap.size w w' := by
  by_cases hn : n ≤ 4096
  · rcases h0 with ⟨rfl, rfl, rfl, rfl⟩ | ⟨ad, rfl, hl, hm, hz, hc, hw⟩
    · exact walk_nil x y z w
    · by_cases hp : 0 < n
      · obtain ⟨b, off, rfl, hc'⟩ := ints_at hc (by omega)
        refine walk_some F b off n c0 zs x y z w hF hn hp (by omega) (fun i hi => hc' i (by omega)) (fun i hi => ?_) htab
        have hm : zs.getD i 0 ∈ zs := by
          rw [List.getD_eq_getElem?_getD, List.getElem?_eq_getElem (by omega)]
          simp
        have := bounds_i64 (hw _ hm)
        exact this
      · obtain rfl : n = 0 := by omega
        exact walk_empty ad c0 x y z w
  · exact walk_long a0 n c0 x y z w (by omega)
end Go.Proofs.Qxb6616891aFmt
