/-
  No cell of these rows narrows 'for every input' (looked for: loops, veiled, ifaces, maps, wideKeys, modest, calm, conditions, laid).
  DERIVED. THE GIVEN ROWS OF THIS SEAT. 2 by the template 'for every input the law returns true; each argument reads behind the call as it read before'; 0 by the template 'total and deterministic' (their statements: Qxb6616908aTotals.lean).
  GIVEN WITH THE SEED: the statements are not yours to turn. If you find one false, say at which input.
  Laid BY PROGRAM, IN A SANDBOX (cutbox-rows.mjs): the forced cells as the released guide's own fill.sh prints them over the translation 4d1e1192bf4fd877… (all of the seat's roots in one cut). By AI agents, Wed Nov 11 2026. No macro, syntax, notation, axiom, sorry.
-/
import Derived.Test.Qxb6616908aChecked
import GoSem.Claim
import GoSem.ClaimJoined
import GoSem.ClaimMapViews
import Derived.JoinedTies
import Derived.KernelRfl
namespace Go.Proofs.Qxb6616908a
/- THE CELL 'sum', in the pinned program and in every row, IS THE sha256 OF THE DUMP (.gsa) THAT Qxb6616908aProg.lean LOADS. Nothing in Lean hashes anything: it is a label: what it is worth is what the hold of that sum in a sandbox is worth. -/
noncomputable def Try.pinned : Pinned := { name := "qxb6616908a", sum := "4d1e1192bf4fd877b9a420117be28a3d09fe8e36c0dac7e405af832bdbe68f82", checked := Try.checked }
namespace Rows
def none {H : Type} : Left H := { results := [], args := [] }

/-- 'zzlaws_reconcile_b1.FnPartEndStepAndFloor': WHATEVER THE INPUT: true; the input reads as it did. -/
def fnPartEndStepAndFloorSpec : ChangeSpec := { name := "fnPartEndStepAndFloor", fn := fun _ => fun
  | [d1, d2, d3] => { results := [.lit (.bool true)], args := [d1, d2, d3] }
  | _ => none }
def fnPartEndStepAndFloorRow : OpenClaim := { program := "qxb6616908a", sum := "4d1e1192bf4fd877b9a420117be28a3d09fe8e36c0dac7e405af832bdbe68f82", func := "example.com/tallytree/tallytree/zzlaws_reconcile_b1.FnPartEndStepAndFloor", spec := "fnPartEndStepAndFloor", apart := false }
def FnPartEndStepAndFloorSaid : Prop := fnPartEndStepAndFloorRow.holds Try.pinned (OpenSpec.ofChange fnPartEndStepAndFloorSpec)

/-- ITS FALSE NEIGHBOUR: 'it returns false'. Refute it at one input. -/
def fnPartEndStepAndFloorWrong : ChangeSpec := { name := "fnPartEndStepAndFloor", fn := fun _ => fun
  | [d1, d2, d3] => { results := [.lit (.bool false)], args := [d1, d2, d3] }
  | _ => none }
def FnPartEndStepAndFloorWrongFalsely : Prop := fnPartEndStepAndFloorRow.holds Try.pinned (OpenSpec.ofChange fnPartEndStepAndFloorWrong)

/-- 'zzlaws_reconcile_b1.FnPartEndComplement': WHATEVER THE INPUT: true; the input reads as it did. -/
def fnPartEndComplementSpec : ChangeSpec := { name := "fnPartEndComplement", fn := fun _ => fun
  | [d1, d2, d3] => { results := [.lit (.bool true)], args := [d1, d2, d3] }
  | _ => none }
def fnPartEndComplementRow : OpenClaim := { program := "qxb6616908a", sum := "4d1e1192bf4fd877b9a420117be28a3d09fe8e36c0dac7e405af832bdbe68f82", func := "example.com/tallytree/tallytree/zzlaws_reconcile_b1.FnPartEndComplement", spec := "fnPartEndComplement", apart := false }
def FnPartEndComplementSaid : Prop := fnPartEndComplementRow.holds Try.pinned (OpenSpec.ofChange fnPartEndComplementSpec)

/-- ITS FALSE NEIGHBOUR: 'it returns false'. Refute it at one input. -/
def fnPartEndComplementWrong : ChangeSpec := { name := "fnPartEndComplement", fn := fun _ => fun
  | [d1, d2, d3] => { results := [.lit (.bool false)], args := [d1, d2, d3] }
  | _ => none }
def FnPartEndComplementWrongFalsely : Prop := fnPartEndComplementRow.holds Try.pinned (OpenSpec.ofChange fnPartEndComplementWrong)

end Rows
end Go.Proofs.Qxb6616908a
