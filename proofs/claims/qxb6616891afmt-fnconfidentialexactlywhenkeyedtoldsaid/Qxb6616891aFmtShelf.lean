/-
  Seat b6616891aF: the shelf's contract of strconv.Itoa at this dump, in plain words (laid by the kit's lay-shelf.mjs and lay-plain.mjs): the table of numbers and one theorem, a field a fact of the dump's own or the kernel's comparison; the contract: one application.
-/
import Derived.Shelf.Strconv.Itoa0
import Derived.Shelf.Strconv.Itoa1
import Derived.Shelf.LaysM
import Derived.Shelf.Strconv.Itoa2
import Derived.Shelf.Strconv.Itoa3
import Derived.Test.Qxb6616891aFmtRows
namespace Go.Proofs.Qxb6616891aFmt
open Go.Shelf
def Tryf.laysM171_ren : Go.Shelf.Ren := ⟨fun | 171 => 11 | 243 => 14 | 246 => 15 | 283 => 16 | 284 => 17 | 285 => 18 | 286 => 19 | 129 => 21 | 317 => 20 | 318 => 22 | 319 => 23 | 320 => 24 | 337 => 25 | 338 => 26 | n => n, fun | 3 => 3 | 9 => 9 | 2 => 2 | 4 => 4 | 171 => 42 | 0 => 0 | 53 => 43 | 37 => 32 | 5 => 5 | 173 => 46 | 212 => 50 | 51 => 51 | 20 => 20 | 213 => 52 | 46 => 54 | 232 => 57 | 233 => 58 | n => n, fun | 17 => 0 | 18 => 1 | 19 => 2 | n => n⟩
theorem Tryf.laysM171 : Go.Proofs.LaysM.n171 Tryf.prog Tryf.laysM171_ren := {
  mixed := by kernel_rfl
  f129 := Tryf.func21.trans (congrArg some (by kernel_rfl))
  f171 := Tryf.func11.trans (congrArg some (by kernel_rfl))
  f243 := Tryf.func14.trans (congrArg some (by kernel_rfl))
  f246 := Tryf.func15.trans (congrArg some (by kernel_rfl))
  f283 := Tryf.func16.trans (congrArg some (by kernel_rfl))
  f284 := Tryf.func17.trans (congrArg some (by kernel_rfl))
  f285 := Tryf.func18.trans (congrArg some (by kernel_rfl))
  f286 := Tryf.func19.trans (congrArg some (by kernel_rfl))
  f317 := Tryf.func20.trans (congrArg some (by kernel_rfl))
  f318 := Tryf.func22.trans (congrArg some (by kernel_rfl))
  f319 := Tryf.func23.trans (congrArg some (by kernel_rfl))
  f320 := Tryf.func24.trans (congrArg some (by kernel_rfl))
  f337 := Tryf.func25.trans (congrArg some (by kernel_rfl))
  f338 := Tryf.func26.trans (congrArg some (by kernel_rfl))
  t0 := Tryf.underlying0
  a0 := Tryf.isAgg0
  z0 := Tryf.sizeOf0
  v0 := Tryf.zeroValue0
  t2 := Tryf.underlying2
  a2 := Tryf.isAgg2
  z2 := Tryf.sizeOf2
  v2 := Tryf.zeroValue2
  t3 := Tryf.underlying3
  a3 := Tryf.isAgg3
  z3 := Tryf.sizeOf3
  v3 := Tryf.zeroValue3
  t4 := Tryf.underlying4
  a4 := Tryf.isAgg4
  z4 := Tryf.sizeOf4
  v4 := Tryf.zeroValue4
  t5 := Tryf.underlying5
  a5 := Tryf.isAgg5
  z5 := Tryf.sizeOf5
  v5 := Tryf.zeroValue5
  t9 := Tryf.underlying9
  a9 := Tryf.isAgg9
  z9 := Tryf.sizeOf9
  v9 := Tryf.zeroValue9
  t20 := Tryf.underlying20
  a20 := Tryf.isAgg20
  z20 := Tryf.sizeOf20
  v20 := Tryf.zeroValue20
  t37 := Tryf.underlying32
  a37 := Tryf.isAgg32
  z37 := Tryf.sizeOf32
  v37 := Tryf.zeroValue32
  t46 := Tryf.underlying54
  a46 := Tryf.isAgg54
  z46 := Tryf.sizeOf54
  v46 := Tryf.zeroValue54
  t51 := Tryf.underlying51
  a51 := Tryf.isAgg51
  z51 := Tryf.sizeOf51
  v51 := Tryf.zeroValue51
  t53 := Tryf.underlying43
  a53 := Tryf.isAgg43
  z53 := Tryf.sizeOf43
  v53 := Tryf.zeroValue43
  t171 := Tryf.underlying42
  a171 := Tryf.isAgg42
  z171 := Tryf.sizeOf42
  v171 := Tryf.zeroValue42
  t173 := Tryf.underlying46
  a173 := Tryf.isAgg46
  z173 := Tryf.sizeOf46
  v173 := Tryf.zeroValue46
  t212 := Tryf.underlying50
  a212 := Tryf.isAgg50
  z212 := Tryf.sizeOf50
  v212 := Tryf.zeroValue50
  t213 := Tryf.underlying52
  a213 := Tryf.isAgg52
  z213 := Tryf.sizeOf52
  t232 := Tryf.underlying57
  a232 := Tryf.isAgg57
  z232 := Tryf.sizeOf57
  v232 := Tryf.zeroValue57
  t233 := Tryf.underlying58
  a233 := Tryf.isAgg58
  z233 := Tryf.sizeOf58
  v233 := Tryf.zeroValue58
  g17 := by kernel_rfl
  g18 := by kernel_rfl
  g19 := by kernel_rfl
  i0 := by kernel_rfl
  i2 := by kernel_rfl
  i3 := by kernel_rfl
  i4 := by kernel_rfl
  i5 := by kernel_rfl
  i9 := by kernel_rfl
  i20 := by kernel_rfl
  i37 := by kernel_rfl
  i46 := by kernel_rfl
  i51 := by kernel_rfl
  i53 := by kernel_rfl
  i171 := by kernel_rfl
  i173 := by kernel_rfl
  i212 := by kernel_rfl
  i232 := by kernel_rfl
  i233 := by kernel_rfl
  m17 := by kernel_rfl
  m18 := by kernel_rfl
  m19 := by kernel_rfl }
/- the table's name, off the given row: internal strconv's uint64pow10 -/
abbrev powName : String := Rows.fnConfidentialExactlyWhenKeyedRow.named.headD ""

open Go.RowKit Go.Sort Go.Lib in
theorem Tryf.strconv_Itoa (n : Int) (h0 : -9223372036854775808 ≤ n) (h1 : n ≤ 9223372036854775807) (w : World) (htab : Lib.TabIs Tryf.prog w powName .u64 Lib.pow10Tab) :
    Calls Tryf.prog 11 #[.int .i64 n] w fun e w' => e = .returned (.string ⟨(Lib.itoa n).toArray⟩) ∧ ∃ k os, w' = grow (w.drewN k) os := Any.strconv_Itoa Tryf.laysM171 n h0 h1 w htab
end Go.Proofs.Qxb6616891aFmt
