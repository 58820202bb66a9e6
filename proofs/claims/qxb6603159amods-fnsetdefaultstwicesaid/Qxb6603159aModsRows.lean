/-
  No cell of these rows narrows 'for every input' (looked for: loops, veiled, ifaces, maps, wideKeys, modest, calm, conditions, laid).
  DERIVED. THE GIVEN ROWS OF THIS SEAT. 1 by the template 'for every input the law returns true; each argument reads behind the call as it read before'; 0 by the template 'total and deterministic' (their statements: Qxb6603159aModsTotals.lean).
  GIVEN WITH THE SEED: the statements are not yours to turn. If you find one false, say at which input.
  Laid BY PROGRAM, IN A SANDBOX (cutbox-rows.mjs): the forced cells as the released guide's own fill.sh prints them over the translation 681a8c21ff76e302… (all of the seat's roots in one cut). By AI agents, Wed Nov 11 2026. No macro, syntax, notation, axiom, sorry.
-/
import Derived.Test.Qxb6603159aModsChecked
import GoSem.Claim
import GoSem.ClaimJoined
import GoSem.ClaimMapViews
import Derived.JoinedTies
import Derived.KernelRfl
namespace Go.Proofs.Qxb6603159aMods
/- THE CELL 'sum', in the pinned program and in every row, IS THE sha256 OF THE DUMP (.gsa) THAT Qxb6603159aModsProg.lean LOADS. Nothing in Lean hashes anything: it is a label: what it is worth is what the hold of that sum in a sandbox is worth. -/
noncomputable def Trym.pinned : Pinned := { name := "qxb6603159amods", sum := "681a8c21ff76e302e2c07cb9c953b082c22a1691dffb6746633ccd60dfb1d397", checked := Trym.checked }
namespace Rows
def none {H : Type} : Left H := { results := [], args := [] }

/-- 'zzlaws_internal_source_b1.FnSetDefaultsTwice': WHATEVER THE INPUT: true; the input reads as it did. -/
def fnSetDefaultsTwiceSpec : ChangeSpec := { name := "fnSetDefaultsTwice", fn := fun _ => fun
  | [d1, d2, d3, d4, d5, d6, d7, d8, d9] => { results := [.lit (.bool true)], args := [d1, d2, d3, d4, d5, d6, d7, d8, d9] }
  | _ => none }
def fnSetDefaultsTwiceRow : OpenClaim := { program := "qxb6603159amods", sum := "681a8c21ff76e302e2c07cb9c953b082c22a1691dffb6746633ccd60dfb1d397", func := "example.com/relaypost/relaypost/zzlaws_internal_source_b1.FnSetDefaultsTwice", spec := "fnSetDefaultsTwice", make := .lifted ["publicsums"], apart := false }
def FnSetDefaultsTwiceSaid : Prop := fnSetDefaultsTwiceRow.holds Trym.pinned (OpenSpec.ofChange fnSetDefaultsTwiceSpec)

/-- ITS FALSE NEIGHBOUR: 'it returns false'. Refute it at one input. -/
def fnSetDefaultsTwiceWrong : ChangeSpec := { name := "fnSetDefaultsTwice", fn := fun _ => fun
  | [d1, d2, d3, d4, d5, d6, d7, d8, d9] => { results := [.lit (.bool false)], args := [d1, d2, d3, d4, d5, d6, d7, d8, d9] }
  | _ => none }
def FnSetDefaultsTwiceWrongFalsely : Prop := fnSetDefaultsTwiceRow.holds Trym.pinned (OpenSpec.ofChange fnSetDefaultsTwiceWrong)

end Rows
end Go.Proofs.Qxb6603159aMods
