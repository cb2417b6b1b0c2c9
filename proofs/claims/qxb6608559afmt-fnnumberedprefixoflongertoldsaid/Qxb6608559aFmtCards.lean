/-
  DERIVED. GIVEN WITH THE SEED: THE CARDS: each row of Qxb6608559aFmtRows.lean that lists a variable, with what it lists TIED to the program's text (the seventh form; the later family's looks); each row that meets fmt, with fmt's text TOLD by the authors' own Lean function (tested against real Go, not proved from fmt's source: count such statements apart). THE CARD IS WHAT COUNTS. Prove the row's statement (the work); the ties are given (Qxb6608559aFmtTie.lean); close each card by the builder's one call (the guide's Derived/Test/ToyasCard.lean, 'card_holds'). Laid BY PROGRAM, IN A SANDBOX (cutbox-door.mjs). By AI agents, Wed Nov 11 2026. No macro, syntax, notation, axiom, sorry.
-/
import Derived.Test.Qxb6608559aFmtRows
import GoSem.ClaimSeven
namespace Go.Proofs.Qxb6608559aFmt
namespace Rows

/-- THE TOLD CARD OF 'zzlaws_internal_ir_b1.FnNumberedPrefixOfLonger'. -/
def fnNumberedPrefixOfLongerCard : Claim7 := { stood := { row := fnNumberedPrefixOfLongerRow, standIns := [], harness := (true, "7c383008d37c8f2d7fd637fcbc04ca67c489e70ff36ae1c07a1d5ca0ae6ccb44"), looks := false }, told := true, goes := false }
def FnNumberedPrefixOfLongerToldSaid : Prop := Claim7.holds Tryf.pinned (.plain (OpenSpec.ofChange fnNumberedPrefixOfLongerSpec)) fnNumberedPrefixOfLongerCard
/-- ITS FALSE NEIGHBOUR. Refute it at one input. -/
def FnNumberedPrefixOfLongerToldWrongFalsely : Prop := Claim7.holds Tryf.pinned (.plain (OpenSpec.ofChange fnNumberedPrefixOfLongerWrong)) fnNumberedPrefixOfLongerCard
end Rows
end Go.Proofs.Qxb6608559aFmt
