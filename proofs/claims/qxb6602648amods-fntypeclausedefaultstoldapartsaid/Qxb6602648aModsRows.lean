/-
  No cell of these rows narrows 'for every input' (looked for: loops, veiled, ifaces, maps, wideKeys, modest, calm, conditions, laid).
  DERIVED. THE GIVEN ROWS OF THIS SEAT. 2 by the template 'for every input the law returns true; each argument reads behind the call as it read before'; 0 by the template 'total and deterministic' (their statements: Qxb6602648aModsTotals.lean).
  GIVEN WITH THE SEED: the statements are not yours to turn. If you find one false, say at which input.
  Laid BY PROGRAM, IN A SANDBOX (cutbox-rows.mjs): the forced cells as the released guide's own fill.sh prints them over the translation dc13f28dea735943… (all of the seat's roots in one cut). By AI agents, Wed Nov 11 2026. No macro, syntax, notation, axiom, sorry.
-/
import Derived.Test.Qxb6602648aModsChecked
import GoSem.Claim
import GoSem.ClaimJoined
import GoSem.ClaimMapViews
import Derived.JoinedTies
import Derived.KernelRfl
namespace Go.Proofs.Qxb6602648aMods
/- THE CELL 'sum', in the pinned program and in every row, IS THE sha256 OF THE DUMP (.gsa) THAT Qxb6602648aModsProg.lean LOADS. Nothing in Lean hashes anything: it is a label: what it is worth is what the hold of that sum in a sandbox is worth. -/
noncomputable def Trym.pinned : Pinned := { name := "qxb6602648amods", sum := "dc13f28dea7359432a778f080ca6cabc2d59caa88643a38944c8bd32e9738374", checked := Trym.checked }
namespace Rows
def none {H : Type} : Left H := { results := [], args := [] }

/-- 'zzlaws_internal_strategy_b1.FnTypeClauseValueInjectiveDefaultIgnored': WHATEVER THE INPUT: true; the input reads as it did. -/
def fnTypeClauseValueInjectiveDefaultIgnoredSpec : ChangeSpec := { name := "fnTypeClauseValueInjectiveDefaultIgnored", fn := fun _ => fun
  | [d1, d2, d3, d4, d5] => { results := [.lit (.bool true)], args := [d1, d2, d3, d4, d5] }
  | _ => none }
def fnTypeClauseValueInjectiveDefaultIgnoredRow : OpenClaim := { program := "qxb6602648amods", sum := "dc13f28dea7359432a778f080ca6cabc2d59caa88643a38944c8bd32e9738374", func := "example.com/drainworthy/drainworthy/zzlaws_internal_strategy_b1.FnTypeClauseValueInjectiveDefaultIgnored", spec := "fnTypeClauseValueInjectiveDefaultIgnored", make := .lifted ["publicsums"], apart := false }
def FnTypeClauseValueInjectiveDefaultIgnoredSaid : Prop := fnTypeClauseValueInjectiveDefaultIgnoredRow.holds Trym.pinned (OpenSpec.ofChange fnTypeClauseValueInjectiveDefaultIgnoredSpec)

/-- ITS FALSE NEIGHBOUR: 'it returns false'. Refute it at one input. -/
def fnTypeClauseValueInjectiveDefaultIgnoredWrong : ChangeSpec := { name := "fnTypeClauseValueInjectiveDefaultIgnored", fn := fun _ => fun
  | [d1, d2, d3, d4, d5] => { results := [.lit (.bool false)], args := [d1, d2, d3, d4, d5] }
  | _ => none }
def FnTypeClauseValueInjectiveDefaultIgnoredWrongFalsely : Prop := fnTypeClauseValueInjectiveDefaultIgnoredRow.holds Trym.pinned (OpenSpec.ofChange fnTypeClauseValueInjectiveDefaultIgnoredWrong)

/-- 'zzlaws_internal_strategy_b1.FnTypeClauseDefaultsToldApart': WHATEVER THE INPUT: true; the input reads as it did. -/
def fnTypeClauseDefaultsToldApartSpec : ChangeSpec := { name := "fnTypeClauseDefaultsToldApart", fn := fun _ => fun
  | [d1, d2, d3] => { results := [.lit (.bool true)], args := [d1, d2, d3] }
  | _ => none }
def fnTypeClauseDefaultsToldApartRow : OpenClaim := { program := "qxb6602648amods", sum := "dc13f28dea7359432a778f080ca6cabc2d59caa88643a38944c8bd32e9738374", func := "example.com/drainworthy/drainworthy/zzlaws_internal_strategy_b1.FnTypeClauseDefaultsToldApart", spec := "fnTypeClauseDefaultsToldApart", make := .lifted ["publicsums"], apart := false }
def FnTypeClauseDefaultsToldApartSaid : Prop := fnTypeClauseDefaultsToldApartRow.holds Trym.pinned (OpenSpec.ofChange fnTypeClauseDefaultsToldApartSpec)

/-- ITS FALSE NEIGHBOUR: 'it returns false'. Refute it at one input. -/
def fnTypeClauseDefaultsToldApartWrong : ChangeSpec := { name := "fnTypeClauseDefaultsToldApart", fn := fun _ => fun
  | [d1, d2, d3] => { results := [.lit (.bool false)], args := [d1, d2, d3] }
  | _ => none }
def FnTypeClauseDefaultsToldApartWrongFalsely : Prop := fnTypeClauseDefaultsToldApartRow.holds Trym.pinned (OpenSpec.ofChange fnTypeClauseDefaultsToldApartWrong)

end Rows
end Go.Proofs.Qxb6602648aMods
