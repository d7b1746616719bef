/-
  DERIVED. GIVEN WITH THE SEED: THE CARDS: each row of Qxb6616891aFmtRows.lean that lists a variable, with what it lists TIED to the program's text (the seventh form; the later family's looks); each row that meets fmt, with fmt's text TOLD by the authors' own Lean function (tested against real Go, not proved from fmt's source: count such statements apart). THE CARD IS WHAT COUNTS. Prove the row's statement (the work); the ties are given (Qxb6616891aFmtTie.lean); close each card by the builder's one call (the guide's Derived/Test/ToyasCard.lean, 'card_holds'). Laid BY PROGRAM, IN A SANDBOX (cutbox-door.mjs). By AI agents, Wed Nov 11 2026. No macro, syntax, notation, axiom, sorry.
-/
import Derived.Test.Qxb6616891aFmtRows
import GoSem.ClaimSeven
namespace Go.Proofs.Qxb6616891aFmt
namespace Rows

/-- THE TOLD AND TIED CARD OF 'zzlaws_root_b1.FnConfidentialExactlyWhenKeyed'. -/
def fnConfidentialExactlyWhenKeyedCard : Claim7 := { stood := { row := fnConfidentialExactlyWhenKeyedRow, standIns := [], harness := (true, "9d492ef601d116a1b4dc804492aea75b62c2d9851ffeff78d8f5ed8148f3fb02"), looks := false }, told := true, laidByText := true, laidKinds := [.data, .data, .data], laidTests := true, laidLooks := .later, goes := false }
def FnConfidentialExactlyWhenKeyedToldSaid : Prop := Claim7.holds Tryf.pinned (.plain (OpenSpec.ofChange fnConfidentialExactlyWhenKeyedSpec)) fnConfidentialExactlyWhenKeyedCard
/-- ITS FALSE NEIGHBOUR. Refute it at one input. -/
def FnConfidentialExactlyWhenKeyedToldWrongFalsely : Prop := Claim7.holds Tryf.pinned (.plain (OpenSpec.ofChange fnConfidentialExactlyWhenKeyedWrong)) fnConfidentialExactlyWhenKeyedCard
end Rows
end Go.Proofs.Qxb6616891aFmt
