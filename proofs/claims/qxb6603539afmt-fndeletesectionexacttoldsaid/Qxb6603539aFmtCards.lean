/-
  DERIVED. GIVEN WITH THE SEED: THE CARDS: each row of Qxb6603539aFmtRows.lean that lists a variable, with what it lists TIED to the program's text (the seventh form; the later family's looks); each row that meets fmt, with fmt's text TOLD by the authors' own Lean function (tested against real Go, not proved from fmt's source: count such statements apart). THE CARD IS WHAT COUNTS. Prove the row's statement (the work); the ties are given (Qxb6603539aFmtTie.lean); close each card by the builder's one call (the guide's Derived/Test/ToyasCard.lean, 'card_holds'). Laid BY PROGRAM, IN A SANDBOX (cutbox-door.mjs). By AI agents, Wed Nov 11 2026. No macro, syntax, notation, axiom, sorry.
-/
import Derived.Test.Qxb6603539aFmtRows
import GoSem.ClaimSeven
namespace Go.Proofs.Qxb6603539aFmt
namespace Rows

/-- THE TOLD CARD OF 'zzlaws_internal_ini_b1.FnDeleteSectionExact'. -/
def fnDeleteSectionExactCard : Claim7 := { stood := { row := fnDeleteSectionExactRow, standIns := [], harness := (true, "ba47e6e6f56892fca368f62dccc1f3ddcf81edc8980345ee6a6feb609b33b45a"), looks := false }, told := true, goes := false }
def FnDeleteSectionExactToldSaid : Prop := Claim7.holds Tryf.pinned (.plain (OpenSpec.ofChange fnDeleteSectionExactSpec)) fnDeleteSectionExactCard
/-- ITS FALSE NEIGHBOUR. Refute it at one input. -/
def FnDeleteSectionExactToldWrongFalsely : Prop := Claim7.holds Tryf.pinned (.plain (OpenSpec.ofChange fnDeleteSectionExactWrong)) fnDeleteSectionExactCard

/-- THE TOLD CARD OF 'zzlaws_internal_ini_b1.FnDeleteSectionLeavesNoHeaderAndRepeatIsNoOp'. -/
def fnDeleteSectionLeavesNoHeaderAndRepeatIsNoOpCard : Claim7 := { stood := { row := fnDeleteSectionLeavesNoHeaderAndRepeatIsNoOpRow, standIns := [], harness := (true, "ba47e6e6f56892fca368f62dccc1f3ddcf81edc8980345ee6a6feb609b33b45a"), looks := false }, told := true, goes := false }
def FnDeleteSectionLeavesNoHeaderAndRepeatIsNoOpToldSaid : Prop := Claim7.holds Tryf.pinned (.plain (OpenSpec.ofChange fnDeleteSectionLeavesNoHeaderAndRepeatIsNoOpSpec)) fnDeleteSectionLeavesNoHeaderAndRepeatIsNoOpCard
/-- ITS FALSE NEIGHBOUR. Refute it at one input. -/
def FnDeleteSectionLeavesNoHeaderAndRepeatIsNoOpToldWrongFalsely : Prop := Claim7.holds Tryf.pinned (.plain (OpenSpec.ofChange fnDeleteSectionLeavesNoHeaderAndRepeatIsNoOpWrong)) fnDeleteSectionLeavesNoHeaderAndRepeatIsNoOpCard
end Rows
end Go.Proofs.Qxb6603539aFmt
