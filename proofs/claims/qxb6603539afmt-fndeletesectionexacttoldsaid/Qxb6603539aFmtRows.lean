/-
  No cell of these rows narrows 'for every input' (looked for: loops, veiled, ifaces, maps, wideKeys, modest, calm, conditions, laid).
  DERIVED. THE GIVEN ROWS OF THIS SEAT. 2 by the template 'for every input the law returns true; each argument reads behind the call as it read before'; 0 by the template 'total and deterministic' (their statements: Qxb6603539aFmtTotals.lean).
  GIVEN WITH THE SEED: the statements are not yours to turn. If you find one false, say at which input.
  Laid BY PROGRAM, IN A SANDBOX (cutbox-rows.mjs): the forced cells as the released guide's own fill.sh prints them over the translation 67f2005d3af8869f… (all of the seat's roots in one cut). By AI agents, Wed Nov 11 2026. No macro, syntax, notation, axiom, sorry.
-/
import Derived.Test.Qxb6603539aFmtChecked
import GoSem.Claim
import GoSem.ClaimJoined
import GoSem.ClaimMapViews
import Derived.JoinedTies
import Derived.KernelRfl
namespace Go.Proofs.Qxb6603539aFmt
/- THE CELL 'sum', in the pinned program and in every row, IS THE sha256 OF THE DUMP (.gsa) THAT Qxb6603539aFmtProg.lean LOADS. Nothing in Lean hashes anything: it is a label: what it is worth is what the hold of that sum in a sandbox is worth. -/
noncomputable def Tryf.pinned : Pinned := { name := "qxb6603539afmt", sum := "67f2005d3af8869f9320109abe6e6cb630ec4116daf5f474a9499b77693a8f94", checked := Tryf.checked }
namespace Rows
def none {H : Type} : Left H := { results := [], args := [] }

/-- 'zzlaws_internal_ini_b1.FnDeleteSectionExact': WHATEVER THE INPUT: true; the input reads as it did. -/
def fnDeleteSectionExactSpec : ChangeSpec := { name := "fnDeleteSectionExact", fn := fun _ => fun
  | [d1, d2, d3] => { results := [.lit (.bool true)], args := [d1, d2, d3] }
  | _ => none }
def fnDeleteSectionExactRow : OpenClaim := { program := "qxb6603539afmt", sum := "67f2005d3af8869f9320109abe6e6cb630ec4116daf5f474a9499b77693a8f94", func := "example.com/sectionbook/sectionbook/zzlaws_internal_ini_b1.FnDeleteSectionExact", spec := "fnDeleteSectionExact", stops := ["fmt.errorf"], inPlace := ["internal/bytealg.IndexByteString", "fmt.errorf"], unfollowed := true, recurses := true, apart := false }
/-- NO THEOREM (fmt's text is open here; it may be false): for the released tool's asking of the row's closed facts alone. THE STATEMENT IS 'FnDeleteSectionExactToldSaid' (Qxb6603539aFmtCards.lean). -/
def FnDeleteSectionExactFormAsk : Prop := fnDeleteSectionExactRow.holds Tryf.pinned (OpenSpec.ofChange fnDeleteSectionExactSpec)

/-- ITS FALSE NEIGHBOUR: 'it returns false'. Refute it at one input. -/
def fnDeleteSectionExactWrong : ChangeSpec := { name := "fnDeleteSectionExact", fn := fun _ => fun
  | [d1, d2, d3] => { results := [.lit (.bool false)], args := [d1, d2, d3] }
  | _ => none }
def FnDeleteSectionExactWrongFormAsk : Prop := fnDeleteSectionExactRow.holds Tryf.pinned (OpenSpec.ofChange fnDeleteSectionExactWrong)

/-- 'zzlaws_internal_ini_b1.FnDeleteSectionLeavesNoHeaderAndRepeatIsNoOp': WHATEVER THE INPUT: true; the input reads as it did. -/
def fnDeleteSectionLeavesNoHeaderAndRepeatIsNoOpSpec : ChangeSpec := { name := "fnDeleteSectionLeavesNoHeaderAndRepeatIsNoOp", fn := fun _ => fun
  | [d1, d2] => { results := [.lit (.bool true)], args := [d1, d2] }
  | _ => none }
def fnDeleteSectionLeavesNoHeaderAndRepeatIsNoOpRow : OpenClaim := { program := "qxb6603539afmt", sum := "67f2005d3af8869f9320109abe6e6cb630ec4116daf5f474a9499b77693a8f94", func := "example.com/sectionbook/sectionbook/zzlaws_internal_ini_b1.FnDeleteSectionLeavesNoHeaderAndRepeatIsNoOp", spec := "fnDeleteSectionLeavesNoHeaderAndRepeatIsNoOp", stops := ["fmt.errorf"], inPlace := ["internal/bytealg.IndexByteString", "fmt.errorf"], unfollowed := true, recurses := true, apart := false }
/-- NO THEOREM (fmt's text is open here; it may be false): for the released tool's asking of the row's closed facts alone. THE STATEMENT IS 'FnDeleteSectionLeavesNoHeaderAndRepeatIsNoOpToldSaid' (Qxb6603539aFmtCards.lean). -/
def FnDeleteSectionLeavesNoHeaderAndRepeatIsNoOpFormAsk : Prop := fnDeleteSectionLeavesNoHeaderAndRepeatIsNoOpRow.holds Tryf.pinned (OpenSpec.ofChange fnDeleteSectionLeavesNoHeaderAndRepeatIsNoOpSpec)

/-- ITS FALSE NEIGHBOUR: 'it returns false'. Refute it at one input. -/
def fnDeleteSectionLeavesNoHeaderAndRepeatIsNoOpWrong : ChangeSpec := { name := "fnDeleteSectionLeavesNoHeaderAndRepeatIsNoOp", fn := fun _ => fun
  | [d1, d2] => { results := [.lit (.bool false)], args := [d1, d2] }
  | _ => none }
def FnDeleteSectionLeavesNoHeaderAndRepeatIsNoOpWrongFormAsk : Prop := fnDeleteSectionLeavesNoHeaderAndRepeatIsNoOpRow.holds Tryf.pinned (OpenSpec.ofChange fnDeleteSectionLeavesNoHeaderAndRepeatIsNoOpWrong)

end Rows
end Go.Proofs.Qxb6603539aFmt
