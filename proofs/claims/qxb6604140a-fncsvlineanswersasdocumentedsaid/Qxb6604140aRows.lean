/-
  No cell of these rows narrows 'for every input' (looked for: loops, veiled, ifaces, maps, wideKeys, modest, calm, conditions, laid).
  DERIVED. THE GIVEN ROWS OF THIS SEAT. 5 by the template 'for every input the law returns true; each argument reads behind the call as it read before'; 0 by the template 'total and deterministic' (their statements: Qxb6604140aTotals.lean).
  GIVEN WITH THE SEED: the statements are not yours to turn. If you find one false, say at which input.
  Laid BY PROGRAM, IN A SANDBOX (cutbox-rows.mjs): the forced cells as the released guide's own fill.sh prints them over the translation c6bc6413541caf42… (all of the seat's roots in one cut). By AI agents, Wed Nov 11 2026. No macro, syntax, notation, axiom, sorry.
-/
import Derived.Test.Qxb6604140aChecked
import GoSem.Claim
import GoSem.ClaimJoined
import GoSem.ClaimMapViews
import Derived.JoinedTies
import Derived.KernelRfl
namespace Go.Proofs.Qxb6604140a
/- THE CELL 'sum', in the pinned program and in every row, IS THE sha256 OF THE DUMP (.gsa) THAT Qxb6604140aProg.lean LOADS. Nothing in Lean hashes anything: it is a label: what it is worth is what the hold of that sum in a sandbox is worth. -/
noncomputable def Try.pinned : Pinned := { name := "qxb6604140a", sum := "c6bc6413541caf42eaabac6fb98d66b45f8b900abcd5ff0754c0bcf5bc62b239", checked := Try.checked }
namespace Rows
def none {H : Type} : Left H := { results := [], args := [] }

/-- 'zzlaws_root_b1.FnPlainCentsMatchesRightToLeftReading': WHATEVER THE INPUT: true; the input reads as it did. -/
def fnPlainCentsMatchesRightToLeftReadingSpec : ChangeSpec := { name := "fnPlainCentsMatchesRightToLeftReading", fn := fun _ => fun
  | [d] => { results := [.lit (.bool true)], args := [d] }
  | _ => none }
def fnPlainCentsMatchesRightToLeftReadingRow : OpenClaim := { program := "qxb6604140a", sum := "c6bc6413541caf42eaabac6fb98d66b45f8b900abcd5ff0754c0bcf5bc62b239", func := "example.com/armslength/armslength/zzlaws_root_b1.FnPlainCentsMatchesRightToLeftReading", spec := "fnPlainCentsMatchesRightToLeftReading", apart := false }
def FnPlainCentsMatchesRightToLeftReadingSaid : Prop := fnPlainCentsMatchesRightToLeftReadingRow.holds Try.pinned (OpenSpec.ofChange fnPlainCentsMatchesRightToLeftReadingSpec)

/-- ITS FALSE NEIGHBOUR: 'it returns false'. Refute it at one input. -/
def fnPlainCentsMatchesRightToLeftReadingWrong : ChangeSpec := { name := "fnPlainCentsMatchesRightToLeftReading", fn := fun _ => fun
  | [d] => { results := [.lit (.bool false)], args := [d] }
  | _ => none }
def FnPlainCentsMatchesRightToLeftReadingWrongFalsely : Prop := fnPlainCentsMatchesRightToLeftReadingRow.holds Try.pinned (OpenSpec.ofChange fnPlainCentsMatchesRightToLeftReadingWrong)

/-- 'zzlaws_root_b1.FnPlainCentsReadsEveryWayOfWritingAnAmount': WHATEVER THE INPUT: true; the input reads as it did. -/
def fnPlainCentsReadsEveryWayOfWritingAnAmountSpec : ChangeSpec := { name := "fnPlainCentsReadsEveryWayOfWritingAnAmount", fn := fun _ => fun
  | [d] => { results := [.lit (.bool true)], args := [d] }
  | _ => none }
def fnPlainCentsReadsEveryWayOfWritingAnAmountRow : OpenClaim := { program := "qxb6604140a", sum := "c6bc6413541caf42eaabac6fb98d66b45f8b900abcd5ff0754c0bcf5bc62b239", func := "example.com/armslength/armslength/zzlaws_root_b1.FnPlainCentsReadsEveryWayOfWritingAnAmount", spec := "fnPlainCentsReadsEveryWayOfWritingAnAmount", apart := false }
def FnPlainCentsReadsEveryWayOfWritingAnAmountSaid : Prop := fnPlainCentsReadsEveryWayOfWritingAnAmountRow.holds Try.pinned (OpenSpec.ofChange fnPlainCentsReadsEveryWayOfWritingAnAmountSpec)

/-- ITS FALSE NEIGHBOUR: 'it returns false'. Refute it at one input. -/
def fnPlainCentsReadsEveryWayOfWritingAnAmountWrong : ChangeSpec := { name := "fnPlainCentsReadsEveryWayOfWritingAnAmount", fn := fun _ => fun
  | [d] => { results := [.lit (.bool false)], args := [d] }
  | _ => none }
def FnPlainCentsReadsEveryWayOfWritingAnAmountWrongFalsely : Prop := fnPlainCentsReadsEveryWayOfWritingAnAmountRow.holds Try.pinned (OpenSpec.ofChange fnPlainCentsReadsEveryWayOfWritingAnAmountWrong)

/-- 'zzlaws_root_b1.FnCsvLineAnswersAsDocumented': WHATEVER THE INPUT: true; the input reads as it did. -/
def fnCsvLineAnswersAsDocumentedSpec : ChangeSpec := { name := "fnCsvLineAnswersAsDocumented", fn := fun _ => fun
  | [d1, d2, d3] => { results := [.lit (.bool true)], args := [d1, d2, d3] }
  | _ => none }
def fnCsvLineAnswersAsDocumentedRow : OpenClaim := { program := "qxb6604140a", sum := "c6bc6413541caf42eaabac6fb98d66b45f8b900abcd5ff0754c0bcf5bc62b239", func := "example.com/armslength/armslength/zzlaws_root_b1.FnCsvLineAnswersAsDocumented", spec := "fnCsvLineAnswersAsDocumented", inPlace := ["internal/bytealg.IndexByte"], apart := false }
def FnCsvLineAnswersAsDocumentedSaid : Prop := fnCsvLineAnswersAsDocumentedRow.holds Try.pinned (OpenSpec.ofChange fnCsvLineAnswersAsDocumentedSpec)

/-- ITS FALSE NEIGHBOUR: 'it returns false'. Refute it at one input. -/
def fnCsvLineAnswersAsDocumentedWrong : ChangeSpec := { name := "fnCsvLineAnswersAsDocumented", fn := fun _ => fun
  | [d1, d2, d3] => { results := [.lit (.bool false)], args := [d1, d2, d3] }
  | _ => none }
def FnCsvLineAnswersAsDocumentedWrongFalsely : Prop := fnCsvLineAnswersAsDocumentedRow.holds Try.pinned (OpenSpec.ofChange fnCsvLineAnswersAsDocumentedWrong)

/-- 'zzlaws_root_b1.FnCsvLineTilesTheInput': WHATEVER THE INPUT: true; the input reads as it did. -/
def fnCsvLineTilesTheInputSpec : ChangeSpec := { name := "fnCsvLineTilesTheInput", fn := fun _ => fun
  | [d] => { results := [.lit (.bool true)], args := [d] }
  | _ => none }
def fnCsvLineTilesTheInputRow : OpenClaim := { program := "qxb6604140a", sum := "c6bc6413541caf42eaabac6fb98d66b45f8b900abcd5ff0754c0bcf5bc62b239", func := "example.com/armslength/armslength/zzlaws_root_b1.FnCsvLineTilesTheInput", spec := "fnCsvLineTilesTheInput", inPlace := ["internal/bytealg.IndexByte"], apart := false }
def FnCsvLineTilesTheInputSaid : Prop := fnCsvLineTilesTheInputRow.holds Try.pinned (OpenSpec.ofChange fnCsvLineTilesTheInputSpec)

/-- ITS FALSE NEIGHBOUR: 'it returns false'. Refute it at one input. -/
def fnCsvLineTilesTheInputWrong : ChangeSpec := { name := "fnCsvLineTilesTheInput", fn := fun _ => fun
  | [d] => { results := [.lit (.bool false)], args := [d] }
  | _ => none }
def FnCsvLineTilesTheInputWrongFalsely : Prop := fnCsvLineTilesTheInputRow.holds Try.pinned (OpenSpec.ofChange fnCsvLineTilesTheInputWrong)

/-- 'zzlaws_root_b1.FnSortAboveMatchesStableMergeSort': WHATEVER THE INPUT: true; the input reads as it did. -/
def fnSortAboveMatchesStableMergeSortSpec : ChangeSpec := { name := "fnSortAboveMatchesStableMergeSort", fn := fun _ => fun
  | [d1, d2] => { results := [.lit (.bool true)], args := [d1, d2] }
  | _ => none }
def fnSortAboveMatchesStableMergeSortRow : OpenClaim := { program := "qxb6604140a", sum := "c6bc6413541caf42eaabac6fb98d66b45f8b900abcd5ff0754c0bcf5bc62b239", func := "example.com/armslength/armslength/zzlaws_root_b1.FnSortAboveMatchesStableMergeSort", spec := "fnSortAboveMatchesStableMergeSort", apart := false }
def FnSortAboveMatchesStableMergeSortSaid : Prop := fnSortAboveMatchesStableMergeSortRow.holds Try.pinned (OpenSpec.ofChange fnSortAboveMatchesStableMergeSortSpec)

/-- ITS FALSE NEIGHBOUR: 'it returns false'. Refute it at one input. -/
def fnSortAboveMatchesStableMergeSortWrong : ChangeSpec := { name := "fnSortAboveMatchesStableMergeSort", fn := fun _ => fun
  | [d1, d2] => { results := [.lit (.bool false)], args := [d1, d2] }
  | _ => none }
def FnSortAboveMatchesStableMergeSortWrongFalsely : Prop := fnSortAboveMatchesStableMergeSortRow.holds Try.pinned (OpenSpec.ofChange fnSortAboveMatchesStableMergeSortWrong)

end Rows
end Go.Proofs.Qxb6604140a
