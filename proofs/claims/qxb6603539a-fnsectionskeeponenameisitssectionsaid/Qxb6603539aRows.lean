/-
  No cell of these rows narrows 'for every input' (looked for: loops, veiled, ifaces, maps, wideKeys, modest, calm, conditions, laid).
  DERIVED. THE GIVEN ROWS OF THIS SEAT. 4 by the template 'for every input the law returns true; each argument reads behind the call as it read before'; 0 by the template 'total and deterministic' (their statements: Qxb6603539aTotals.lean).
  GIVEN WITH THE SEED: the statements are not yours to turn. If you find one false, say at which input.
  Laid BY PROGRAM, IN A SANDBOX (cutbox-rows.mjs): the forced cells as the released guide's own fill.sh prints them over the translation 879e21738ec22f04… (all of the seat's roots in one cut). By AI agents, Wed Nov 11 2026. No macro, syntax, notation, axiom, sorry.
-/
import Derived.Test.Qxb6603539aChecked
import GoSem.Claim
import GoSem.ClaimJoined
import GoSem.ClaimMapViews
import Derived.JoinedTies
import Derived.KernelRfl
namespace Go.Proofs.Qxb6603539a
/- THE CELL 'sum', in the pinned program and in every row, IS THE sha256 OF THE DUMP (.gsa) THAT Qxb6603539aProg.lean LOADS. Nothing in Lean hashes anything: it is a label: what it is worth is what the hold of that sum in a sandbox is worth. -/
noncomputable def Try.pinned : Pinned := { name := "qxb6603539a", sum := "879e21738ec22f043602fcda88dfd47027b42fad462d7d19830921f0427e518f", checked := Try.checked }
namespace Rows
def none {H : Type} : Left H := { results := [], args := [] }

/-- 'zzlaws_internal_ini_b1.FnRemoveKeepsExactlyLinesOutsideRuns': WHATEVER THE INPUT: true; the input reads as it did. -/
def fnRemoveKeepsExactlyLinesOutsideRunsSpec : ChangeSpec := { name := "fnRemoveKeepsExactlyLinesOutsideRuns", fn := fun _ => fun
  | [d1, d2, d3] => { results := [.lit (.bool true)], args := [d1, d2, d3] }
  | _ => none }
def fnRemoveKeepsExactlyLinesOutsideRunsRow : OpenClaim := { program := "qxb6603539a", sum := "879e21738ec22f043602fcda88dfd47027b42fad462d7d19830921f0427e518f", func := "example.com/sectionbook/sectionbook/zzlaws_internal_ini_b1.FnRemoveKeepsExactlyLinesOutsideRuns", spec := "fnRemoveKeepsExactlyLinesOutsideRuns", plainKeys := false, apart := false }
def FnRemoveKeepsExactlyLinesOutsideRunsSaid : Prop := fnRemoveKeepsExactlyLinesOutsideRunsRow.holds Try.pinned (OpenSpec.ofChange fnRemoveKeepsExactlyLinesOutsideRunsSpec)

/-- ITS FALSE NEIGHBOUR: 'it returns false'. Refute it at one input. -/
def fnRemoveKeepsExactlyLinesOutsideRunsWrong : ChangeSpec := { name := "fnRemoveKeepsExactlyLinesOutsideRuns", fn := fun _ => fun
  | [d1, d2, d3] => { results := [.lit (.bool false)], args := [d1, d2, d3] }
  | _ => none }
def FnRemoveKeepsExactlyLinesOutsideRunsWrongFalsely : Prop := fnRemoveKeepsExactlyLinesOutsideRunsRow.holds Try.pinned (OpenSpec.ofChange fnRemoveKeepsExactlyLinesOutsideRunsWrong)

/-- 'zzlaws_internal_ini_b1.FnRemoveAgreesWithSplicesFromTheBack': WHATEVER THE INPUT: true; the input reads as it did. -/
def fnRemoveAgreesWithSplicesFromTheBackSpec : ChangeSpec := { name := "fnRemoveAgreesWithSplicesFromTheBack", fn := fun _ => fun
  | [d1, d2] => { results := [.lit (.bool true)], args := [d1, d2] }
  | _ => none }
def fnRemoveAgreesWithSplicesFromTheBackRow : OpenClaim := { program := "qxb6603539a", sum := "879e21738ec22f043602fcda88dfd47027b42fad462d7d19830921f0427e518f", func := "example.com/sectionbook/sectionbook/zzlaws_internal_ini_b1.FnRemoveAgreesWithSplicesFromTheBack", spec := "fnRemoveAgreesWithSplicesFromTheBack", plainKeys := false, apart := false }
def FnRemoveAgreesWithSplicesFromTheBackSaid : Prop := fnRemoveAgreesWithSplicesFromTheBackRow.holds Try.pinned (OpenSpec.ofChange fnRemoveAgreesWithSplicesFromTheBackSpec)

/-- ITS FALSE NEIGHBOUR: 'it returns false'. Refute it at one input. -/
def fnRemoveAgreesWithSplicesFromTheBackWrong : ChangeSpec := { name := "fnRemoveAgreesWithSplicesFromTheBack", fn := fun _ => fun
  | [d1, d2] => { results := [.lit (.bool false)], args := [d1, d2] }
  | _ => none }
def FnRemoveAgreesWithSplicesFromTheBackWrongFalsely : Prop := fnRemoveAgreesWithSplicesFromTheBackRow.holds Try.pinned (OpenSpec.ofChange fnRemoveAgreesWithSplicesFromTheBackWrong)

/-- 'zzlaws_internal_ini_b1.FnSectionsMatchLineWalk': WHATEVER THE INPUT: true; the input reads as it did. -/
def fnSectionsMatchLineWalkSpec : ChangeSpec := { name := "fnSectionsMatchLineWalk", fn := fun _ => fun
  | [d1, d2] => { results := [.lit (.bool true)], args := [d1, d2] }
  | _ => none }
def fnSectionsMatchLineWalkRow : OpenClaim := { program := "qxb6603539a", sum := "879e21738ec22f043602fcda88dfd47027b42fad462d7d19830921f0427e518f", func := "example.com/sectionbook/sectionbook/zzlaws_internal_ini_b1.FnSectionsMatchLineWalk", spec := "fnSectionsMatchLineWalk", inPlace := ["internal/bytealg.IndexByteString", "internal/bytealg.IndexString", "internal/abi.NoEscape", "internal/bytealg.MakeNoZero"], unfollowed := true, recurses := true, named := ["internal/bytealg.MaxLen"], plainKeys := false, apart := false }
def FnSectionsMatchLineWalkSaid : Prop := fnSectionsMatchLineWalkRow.holds Try.pinned (OpenSpec.ofChange fnSectionsMatchLineWalkSpec)

/-- ITS FALSE NEIGHBOUR: 'it returns false'. Refute it at one input. -/
def fnSectionsMatchLineWalkWrong : ChangeSpec := { name := "fnSectionsMatchLineWalk", fn := fun _ => fun
  | [d1, d2] => { results := [.lit (.bool false)], args := [d1, d2] }
  | _ => none }
def FnSectionsMatchLineWalkWrongFalsely : Prop := fnSectionsMatchLineWalkRow.holds Try.pinned (OpenSpec.ofChange fnSectionsMatchLineWalkWrong)

/-- 'zzlaws_internal_ini_b1.FnSectionsKeepOneNameIsItsSection': WHATEVER THE INPUT: true; the input reads as it did. -/
def fnSectionsKeepOneNameIsItsSectionSpec : ChangeSpec := { name := "fnSectionsKeepOneNameIsItsSection", fn := fun _ => fun
  | [d1, d2, d3] => { results := [.lit (.bool true)], args := [d1, d2, d3] }
  | _ => none }
def fnSectionsKeepOneNameIsItsSectionRow : OpenClaim := { program := "qxb6603539a", sum := "879e21738ec22f043602fcda88dfd47027b42fad462d7d19830921f0427e518f", func := "example.com/sectionbook/sectionbook/zzlaws_internal_ini_b1.FnSectionsKeepOneNameIsItsSection", spec := "fnSectionsKeepOneNameIsItsSection", inPlace := ["internal/bytealg.IndexByteString", "internal/bytealg.IndexString", "internal/abi.NoEscape", "internal/bytealg.MakeNoZero"], unfollowed := true, recurses := true, named := ["internal/bytealg.MaxLen"], plainKeys := false, apart := false }
def FnSectionsKeepOneNameIsItsSectionSaid : Prop := fnSectionsKeepOneNameIsItsSectionRow.holds Try.pinned (OpenSpec.ofChange fnSectionsKeepOneNameIsItsSectionSpec)

/-- ITS FALSE NEIGHBOUR: 'it returns false'. Refute it at one input. -/
def fnSectionsKeepOneNameIsItsSectionWrong : ChangeSpec := { name := "fnSectionsKeepOneNameIsItsSection", fn := fun _ => fun
  | [d1, d2, d3] => { results := [.lit (.bool false)], args := [d1, d2, d3] }
  | _ => none }
def FnSectionsKeepOneNameIsItsSectionWrongFalsely : Prop := fnSectionsKeepOneNameIsItsSectionRow.holds Try.pinned (OpenSpec.ofChange fnSectionsKeepOneNameIsItsSectionWrong)

end Rows
end Go.Proofs.Qxb6603539a
