/-
  No cell of these rows narrows 'for every input' (looked for: loops, veiled, ifaces, maps, wideKeys, modest, calm, conditions, laid).
  DERIVED. THE GIVEN ROWS OF THIS SEAT. 2 by the template 'for every input the law returns true; each argument reads behind the call as it read before'; 0 by the template 'total and deterministic' (their statements: Qxb6602979aModsTotals.lean).
  GIVEN WITH THE SEED: the statements are not yours to turn. If you find one false, say at which input.
  Laid BY PROGRAM, IN A SANDBOX (cutbox-rows.mjs): the forced cells as the released guide's own fill.sh prints them over the translation a1202dd355258a24… (all of the seat's roots in one cut). By AI agents, Wed Nov 11 2026. No macro, syntax, notation, axiom, sorry.
-/
import Derived.Test.Qxb6602979aModsChecked
import GoSem.Claim
import GoSem.ClaimJoined
import GoSem.ClaimMapViews
import Derived.JoinedTies
import Derived.KernelRfl
namespace Go.Proofs.Qxb6602979aMods
/- THE CELL 'sum', in the pinned program and in every row, IS THE sha256 OF THE DUMP (.gsa) THAT Qxb6602979aModsProg.lean LOADS. Nothing in Lean hashes anything: it is a label: what it is worth is what the hold of that sum in a sandbox is worth. -/
noncomputable def Trym.pinned : Pinned := { name := "qxb6602979amods", sum := "a1202dd355258a247c81c3d9d9ce2326746a9ebaa272b8cc48d3efd1d6592c05", checked := Trym.checked }
namespace Rows
def none {H : Type} : Left H := { results := [], args := [] }

/-- 'zzlaws_internal_yamlstream_b1.FnQuotedMatchesModel': WHATEVER THE INPUT: true; the input reads as it did. -/
def fnQuotedMatchesModelSpec : ChangeSpec := { name := "fnQuotedMatchesModel", fn := fun _ => fun
  | [d] => { results := [.lit (.bool true)], args := [d] }
  | _ => none }
def fnQuotedMatchesModelRow : OpenClaim := { program := "qxb6602979amods", sum := "a1202dd355258a247c81c3d9d9ce2326746a9ebaa272b8cc48d3efd1d6592c05", func := "example.com/tierkeeper/tierkeeper/zzlaws_internal_yamlstream_b1.FnQuotedMatchesModel", spec := "fnQuotedMatchesModel", make := .lifted ["publicsums"], apart := false }
def FnQuotedMatchesModelSaid : Prop := fnQuotedMatchesModelRow.holds Trym.pinned (OpenSpec.ofChange fnQuotedMatchesModelSpec)

/-- ITS FALSE NEIGHBOUR: 'it returns false'. Refute it at one input. -/
def fnQuotedMatchesModelWrong : ChangeSpec := { name := "fnQuotedMatchesModel", fn := fun _ => fun
  | [d] => { results := [.lit (.bool false)], args := [d] }
  | _ => none }
def FnQuotedMatchesModelWrongFalsely : Prop := fnQuotedMatchesModelRow.holds Trym.pinned (OpenSpec.ofChange fnQuotedMatchesModelWrong)

/-- 'zzlaws_internal_yamlstream_b1.FnQuotedRoundTrip': WHATEVER THE INPUT: true; the input reads as it did. -/
def fnQuotedRoundTripSpec : ChangeSpec := { name := "fnQuotedRoundTrip", fn := fun _ => fun
  | [d1, d2, d3] => { results := [.lit (.bool true)], args := [d1, d2, d3] }
  | _ => none }
def fnQuotedRoundTripRow : OpenClaim := { program := "qxb6602979amods", sum := "a1202dd355258a247c81c3d9d9ce2326746a9ebaa272b8cc48d3efd1d6592c05", func := "example.com/tierkeeper/tierkeeper/zzlaws_internal_yamlstream_b1.FnQuotedRoundTrip", spec := "fnQuotedRoundTrip", make := .lifted ["publicsums"], apart := false }
def FnQuotedRoundTripSaid : Prop := fnQuotedRoundTripRow.holds Trym.pinned (OpenSpec.ofChange fnQuotedRoundTripSpec)

/-- ITS FALSE NEIGHBOUR: 'it returns false'. Refute it at one input. -/
def fnQuotedRoundTripWrong : ChangeSpec := { name := "fnQuotedRoundTrip", fn := fun _ => fun
  | [d1, d2, d3] => { results := [.lit (.bool false)], args := [d1, d2, d3] }
  | _ => none }
def FnQuotedRoundTripWrongFalsely : Prop := fnQuotedRoundTripRow.holds Trym.pinned (OpenSpec.ofChange fnQuotedRoundTripWrong)

end Rows
end Go.Proofs.Qxb6602979aMods
