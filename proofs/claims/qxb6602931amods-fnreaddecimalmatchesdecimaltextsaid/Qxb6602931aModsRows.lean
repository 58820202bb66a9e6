/-
  No cell of these rows narrows 'for every input' (looked for: loops, veiled, ifaces, maps, wideKeys, modest, calm, conditions, laid).
  DERIVED. THE GIVEN ROWS OF THIS SEAT. 6 by the template 'for every input the law returns true; each argument reads behind the call as it read before'; 0 by the template 'total and deterministic' (their statements: Qxb6602931aModsTotals.lean).
  GIVEN WITH THE SEED: the statements are not yours to turn. If you find one false, say at which input.
  Laid BY PROGRAM, IN A SANDBOX (cutbox-rows.mjs): the forced cells as the released guide's own fill.sh prints them over the translation 9e35b665e052b5d0… (all of the seat's roots in one cut). By AI agents, Wed Nov 11 2026. No macro, syntax, notation, axiom, sorry.
-/
import Derived.Test.Qxb6602931aModsChecked
import GoSem.Claim
import GoSem.ClaimJoined
import GoSem.ClaimMapViews
import Derived.JoinedTies
import Derived.KernelRfl
namespace Go.Proofs.Qxb6602931aMods
/- THE CELL 'sum', in the pinned program and in every row, IS THE sha256 OF THE DUMP (.gsa) THAT Qxb6602931aModsProg.lean LOADS. Nothing in Lean hashes anything: it is a label: what it is worth is what the hold of that sum in a sandbox is worth. -/
noncomputable def Trym.pinned : Pinned := { name := "qxb6602931amods", sum := "9e35b665e052b5d08ef1eabf442a9e7a796907fd3f47e658513580690190b8f8", checked := Trym.checked }
namespace Rows
def none {H : Type} : Left H := { results := [], args := [] }

/-- 'zzlaws_root_b1.FnMatchesMaskAgreesWithTableMatcher': WHATEVER THE INPUT: true; the input reads as it did. -/
def fnMatchesMaskAgreesWithTableMatcherSpec : ChangeSpec := { name := "fnMatchesMaskAgreesWithTableMatcher", fn := fun _ => fun
  | [d1, d2] => { results := [.lit (.bool true)], args := [d1, d2] }
  | _ => none }
def fnMatchesMaskAgreesWithTableMatcherRow : OpenClaim := { program := "qxb6602931amods", sum := "9e35b665e052b5d08ef1eabf442a9e7a796907fd3f47e658513580690190b8f8", func := "example.com/exact-expander/exact-expander/zzlaws_root_b1.FnMatchesMaskAgreesWithTableMatcher", spec := "fnMatchesMaskAgreesWithTableMatcher", inPlace := ["internal/bytealg.IndexByte", "internal/bytealg.Index"], named := ["internal/bytealg.MaxLen"], make := .lifted ["publicsums"], apart := false }
def FnMatchesMaskAgreesWithTableMatcherSaid : Prop := fnMatchesMaskAgreesWithTableMatcherRow.holds Trym.pinned (OpenSpec.ofChange fnMatchesMaskAgreesWithTableMatcherSpec)

/-- ITS FALSE NEIGHBOUR: 'it returns false'. Refute it at one input. -/
def fnMatchesMaskAgreesWithTableMatcherWrong : ChangeSpec := { name := "fnMatchesMaskAgreesWithTableMatcher", fn := fun _ => fun
  | [d1, d2] => { results := [.lit (.bool false)], args := [d1, d2] }
  | _ => none }
def FnMatchesMaskAgreesWithTableMatcherWrongFalsely : Prop := fnMatchesMaskAgreesWithTableMatcherRow.holds Trym.pinned (OpenSpec.ofChange fnMatchesMaskAgreesWithTableMatcherWrong)

/-- 'zzlaws_root_b1.FnMatchesMaskMatchesItself': WHATEVER THE INPUT: true; the input reads as it did. -/
def fnMatchesMaskMatchesItselfSpec : ChangeSpec := { name := "fnMatchesMaskMatchesItself", fn := fun _ => fun
  | [d] => { results := [.lit (.bool true)], args := [d] }
  | _ => none }
def fnMatchesMaskMatchesItselfRow : OpenClaim := { program := "qxb6602931amods", sum := "9e35b665e052b5d08ef1eabf442a9e7a796907fd3f47e658513580690190b8f8", func := "example.com/exact-expander/exact-expander/zzlaws_root_b1.FnMatchesMaskMatchesItself", spec := "fnMatchesMaskMatchesItself", inPlace := ["internal/bytealg.IndexByte", "internal/bytealg.Index"], named := ["internal/bytealg.MaxLen"], make := .lifted ["publicsums"], apart := false }
def FnMatchesMaskMatchesItselfSaid : Prop := fnMatchesMaskMatchesItselfRow.holds Trym.pinned (OpenSpec.ofChange fnMatchesMaskMatchesItselfSpec)

/-- ITS FALSE NEIGHBOUR: 'it returns false'. Refute it at one input. -/
def fnMatchesMaskMatchesItselfWrong : ChangeSpec := { name := "fnMatchesMaskMatchesItself", fn := fun _ => fun
  | [d] => { results := [.lit (.bool false)], args := [d] }
  | _ => none }
def FnMatchesMaskMatchesItselfWrongFalsely : Prop := fnMatchesMaskMatchesItselfRow.holds Trym.pinned (OpenSpec.ofChange fnMatchesMaskMatchesItselfWrong)

/-- 'zzlaws_root_b1.FnMatchesMaskStarInsertionWidens': WHATEVER THE INPUT: true; the input reads as it did. -/
def fnMatchesMaskStarInsertionWidensSpec : ChangeSpec := { name := "fnMatchesMaskStarInsertionWidens", fn := fun _ => fun
  | [d1, d2, d3] => { results := [.lit (.bool true)], args := [d1, d2, d3] }
  | _ => none }
def fnMatchesMaskStarInsertionWidensRow : OpenClaim := { program := "qxb6602931amods", sum := "9e35b665e052b5d08ef1eabf442a9e7a796907fd3f47e658513580690190b8f8", func := "example.com/exact-expander/exact-expander/zzlaws_root_b1.FnMatchesMaskStarInsertionWidens", spec := "fnMatchesMaskStarInsertionWidens", inPlace := ["internal/bytealg.IndexByte", "internal/bytealg.Index"], named := ["internal/bytealg.MaxLen"], make := .lifted ["publicsums"], apart := false }
def FnMatchesMaskStarInsertionWidensSaid : Prop := fnMatchesMaskStarInsertionWidensRow.holds Trym.pinned (OpenSpec.ofChange fnMatchesMaskStarInsertionWidensSpec)

/-- ITS FALSE NEIGHBOUR: 'it returns false'. Refute it at one input. -/
def fnMatchesMaskStarInsertionWidensWrong : ChangeSpec := { name := "fnMatchesMaskStarInsertionWidens", fn := fun _ => fun
  | [d1, d2, d3] => { results := [.lit (.bool false)], args := [d1, d2, d3] }
  | _ => none }
def FnMatchesMaskStarInsertionWidensWrongFalsely : Prop := fnMatchesMaskStarInsertionWidensRow.holds Trym.pinned (OpenSpec.ofChange fnMatchesMaskStarInsertionWidensWrong)

/-- 'zzlaws_root_b1.FnReadDecimalMatchesDecimalText': WHATEVER THE INPUT: true; the input reads as it did. -/
def fnReadDecimalMatchesDecimalTextSpec : ChangeSpec := { name := "fnReadDecimalMatchesDecimalText", fn := fun _ => fun
  | [d1, d2] => { results := [.lit (.bool true)], args := [d1, d2] }
  | _ => none }
def fnReadDecimalMatchesDecimalTextRow : OpenClaim := { program := "qxb6602931amods", sum := "9e35b665e052b5d08ef1eabf442a9e7a796907fd3f47e658513580690190b8f8", func := "example.com/exact-expander/exact-expander/zzlaws_root_b1.FnReadDecimalMatchesDecimalText", spec := "fnReadDecimalMatchesDecimalText", make := .lifted ["publicsums"], apart := false }
def FnReadDecimalMatchesDecimalTextSaid : Prop := fnReadDecimalMatchesDecimalTextRow.holds Trym.pinned (OpenSpec.ofChange fnReadDecimalMatchesDecimalTextSpec)

/-- ITS FALSE NEIGHBOUR: 'it returns false'. Refute it at one input. -/
def fnReadDecimalMatchesDecimalTextWrong : ChangeSpec := { name := "fnReadDecimalMatchesDecimalText", fn := fun _ => fun
  | [d1, d2] => { results := [.lit (.bool false)], args := [d1, d2] }
  | _ => none }
def FnReadDecimalMatchesDecimalTextWrongFalsely : Prop := fnReadDecimalMatchesDecimalTextRow.holds Trym.pinned (OpenSpec.ofChange fnReadDecimalMatchesDecimalTextWrong)

/-- 'zzlaws_root_b1.FnReadDecimalIgnoresLeadingZero': WHATEVER THE INPUT: true; the input reads as it did. -/
def fnReadDecimalIgnoresLeadingZeroSpec : ChangeSpec := { name := "fnReadDecimalIgnoresLeadingZero", fn := fun _ => fun
  | [d1, d2] => { results := [.lit (.bool true)], args := [d1, d2] }
  | _ => none }
def fnReadDecimalIgnoresLeadingZeroRow : OpenClaim := { program := "qxb6602931amods", sum := "9e35b665e052b5d08ef1eabf442a9e7a796907fd3f47e658513580690190b8f8", func := "example.com/exact-expander/exact-expander/zzlaws_root_b1.FnReadDecimalIgnoresLeadingZero", spec := "fnReadDecimalIgnoresLeadingZero", make := .lifted ["publicsums"], apart := false }
def FnReadDecimalIgnoresLeadingZeroSaid : Prop := fnReadDecimalIgnoresLeadingZeroRow.holds Trym.pinned (OpenSpec.ofChange fnReadDecimalIgnoresLeadingZeroSpec)

/-- ITS FALSE NEIGHBOUR: 'it returns false'. Refute it at one input. -/
def fnReadDecimalIgnoresLeadingZeroWrong : ChangeSpec := { name := "fnReadDecimalIgnoresLeadingZero", fn := fun _ => fun
  | [d1, d2] => { results := [.lit (.bool false)], args := [d1, d2] }
  | _ => none }
def FnReadDecimalIgnoresLeadingZeroWrongFalsely : Prop := fnReadDecimalIgnoresLeadingZeroRow.holds Trym.pinned (OpenSpec.ofChange fnReadDecimalIgnoresLeadingZeroWrong)

/-- 'zzlaws_root_b1.FnReadDecimalWiderLimitKeepsAcceptance': WHATEVER THE INPUT: true; the input reads as it did. -/
def fnReadDecimalWiderLimitKeepsAcceptanceSpec : ChangeSpec := { name := "fnReadDecimalWiderLimitKeepsAcceptance", fn := fun _ => fun
  | [d1, d2, d3] => { results := [.lit (.bool true)], args := [d1, d2, d3] }
  | _ => none }
def fnReadDecimalWiderLimitKeepsAcceptanceRow : OpenClaim := { program := "qxb6602931amods", sum := "9e35b665e052b5d08ef1eabf442a9e7a796907fd3f47e658513580690190b8f8", func := "example.com/exact-expander/exact-expander/zzlaws_root_b1.FnReadDecimalWiderLimitKeepsAcceptance", spec := "fnReadDecimalWiderLimitKeepsAcceptance", make := .lifted ["publicsums"], apart := false }
def FnReadDecimalWiderLimitKeepsAcceptanceSaid : Prop := fnReadDecimalWiderLimitKeepsAcceptanceRow.holds Trym.pinned (OpenSpec.ofChange fnReadDecimalWiderLimitKeepsAcceptanceSpec)

/-- ITS FALSE NEIGHBOUR: 'it returns false'. Refute it at one input. -/
def fnReadDecimalWiderLimitKeepsAcceptanceWrong : ChangeSpec := { name := "fnReadDecimalWiderLimitKeepsAcceptance", fn := fun _ => fun
  | [d1, d2, d3] => { results := [.lit (.bool false)], args := [d1, d2, d3] }
  | _ => none }
def FnReadDecimalWiderLimitKeepsAcceptanceWrongFalsely : Prop := fnReadDecimalWiderLimitKeepsAcceptanceRow.holds Trym.pinned (OpenSpec.ofChange fnReadDecimalWiderLimitKeepsAcceptanceWrong)

end Rows
end Go.Proofs.Qxb6602931aMods
