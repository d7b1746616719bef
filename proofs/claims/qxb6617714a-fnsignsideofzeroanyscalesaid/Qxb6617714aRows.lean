/-
  No cell of these rows narrows 'for every input' (looked for: loops, veiled, ifaces, maps, wideKeys, modest, calm, conditions, laid).
  DERIVED. THE GIVEN ROWS OF THIS SEAT. 1 by the template 'for every input the law returns true; each argument reads behind the call as it read before'; 0 by the template 'total and deterministic' (their statements: Qxb6617714aTotals.lean).
  GIVEN WITH THE SEED: the statements are not yours to turn. If you find one false, say at which input.
  Laid BY PROGRAM, IN A SANDBOX (cutbox-rows.mjs): the forced cells as the released guide's own fill.sh prints them over the translation 753e3ff7f0bda57a… (all of the seat's roots in one cut). By AI agents, Wed Nov 11 2026. No macro, syntax, notation, axiom, sorry.
-/
import Derived.Test.Qxb6617714aChecked
import GoSem.Claim
import GoSem.ClaimJoined
import GoSem.ClaimMapViews
import Derived.JoinedTies
import Derived.KernelRfl
namespace Go.Proofs.Qxb6617714a
/- THE CELL 'sum', in the pinned program and in every row, IS THE sha256 OF THE DUMP (.gsa) THAT Qxb6617714aProg.lean LOADS. Nothing in Lean hashes anything: it is a label: what it is worth is what the hold of that sum in a sandbox is worth. -/
noncomputable def Try.pinned : Pinned := { name := "qxb6617714a", sum := "753e3ff7f0bda57a86d3c153058f402a78748d28605a1a4d5c8003ea0a396a06", checked := Try.checked }
namespace Rows
def none {H : Type} : Left H := { results := [], args := [] }

/-- 'zzlaws_root_b1.FnSignSideOfZeroAnyScale': WHATEVER THE INPUT: true; the input reads as it did. -/
def fnSignSideOfZeroAnyScaleSpec : ChangeSpec := { name := "fnSignSideOfZeroAnyScale", fn := fun _ => fun
  | [d1, d2, d3] => { results := [.lit (.bool true)], args := [d1, d2, d3] }
  | _ => none }
def fnSignSideOfZeroAnyScaleRow : OpenClaim := { program := "qxb6617714a", sum := "753e3ff7f0bda57a86d3c153058f402a78748d28605a1a4d5c8003ea0a396a06", func := "example.com/zhaomu/zhaomu/zzlaws_root_b1.FnSignSideOfZeroAnyScale", spec := "fnSignSideOfZeroAnyScale", apart := false }
def FnSignSideOfZeroAnyScaleSaid : Prop := fnSignSideOfZeroAnyScaleRow.holds Try.pinned (OpenSpec.ofChange fnSignSideOfZeroAnyScaleSpec)

/-- ITS FALSE NEIGHBOUR: 'it returns false'. Refute it at one input. -/
def fnSignSideOfZeroAnyScaleWrong : ChangeSpec := { name := "fnSignSideOfZeroAnyScale", fn := fun _ => fun
  | [d1, d2, d3] => { results := [.lit (.bool false)], args := [d1, d2, d3] }
  | _ => none }
def FnSignSideOfZeroAnyScaleWrongFalsely : Prop := fnSignSideOfZeroAnyScaleRow.holds Try.pinned (OpenSpec.ofChange fnSignSideOfZeroAnyScaleWrong)

end Rows
end Go.Proofs.Qxb6617714a
