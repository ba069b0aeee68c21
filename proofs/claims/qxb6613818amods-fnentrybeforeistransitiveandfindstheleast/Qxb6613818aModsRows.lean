/-
  No cell of these rows narrows 'for every input' (looked for: loops, veiled, ifaces, maps, wideKeys, modest, calm, conditions, laid).
  DERIVED. THE GIVEN ROWS OF THIS SEAT. 2 by the template 'for every input the law returns true; each argument reads behind the call as it read before'; 0 by the template 'total and deterministic' (their statements: Qxb6613818aModsTotals.lean).
  GIVEN WITH THE SEED: the statements are not yours to turn. If you find one false, say at which input.
  Laid BY PROGRAM, IN A SANDBOX (cutbox-rows.mjs): the forced cells as the released guide's own fill.sh prints them over the translation ce7f443c4d1497d0… (all of the seat's roots in one cut). By AI agents, Wed Nov 11 2026. No macro, syntax, notation, axiom, sorry.
-/
import Derived.Test.Qxb6613818aModsChecked
import GoSem.Claim
import GoSem.ClaimJoined
import GoSem.ClaimMapViews
import Derived.JoinedTies
import Derived.KernelRfl
namespace Go.Proofs.Qxb6613818aMods
/- THE CELL 'sum', in the pinned program and in every row, IS THE sha256 OF THE DUMP (.gsa) THAT Qxb6613818aModsProg.lean LOADS. Nothing in Lean hashes anything: it is a label: what it is worth is what the hold of that sum in a sandbox is worth. -/
noncomputable def Trym.pinned : Pinned := { name := "qxb6613818amods", sum := "ce7f443c4d1497d0ac760ac32194d648a42db21beca33f0c7e3583b9589ac89f", checked := Trym.checked }
namespace Rows
def none {H : Type} : Left H := { results := [], args := [] }

/-- 'zzlaws_internal_quorum_b1.FnEntryBeforeIsStrictAndPicksTheLater': WHATEVER THE INPUT: true; the input reads as it did. -/
def fnEntryBeforeIsStrictAndPicksTheLaterSpec : ChangeSpec := { name := "fnEntryBeforeIsStrictAndPicksTheLater", fn := fun _ => fun
  | [d1, d2, d3, d4] => { results := [.lit (.bool true)], args := [d1, d2, d3, d4] }
  | _ => none }
def fnEntryBeforeIsStrictAndPicksTheLaterRow : OpenClaim := { program := "qxb6613818amods", sum := "ce7f443c4d1497d0ac760ac32194d648a42db21beca33f0c7e3583b9589ac89f", func := "example.com/reconcord/reconcord/zzlaws_internal_quorum_b1.FnEntryBeforeIsStrictAndPicksTheLater", spec := "fnEntryBeforeIsStrictAndPicksTheLater", make := .lifted ["publicsums"], apart := false }
def FnEntryBeforeIsStrictAndPicksTheLaterSaid : Prop := fnEntryBeforeIsStrictAndPicksTheLaterRow.holds Trym.pinned (OpenSpec.ofChange fnEntryBeforeIsStrictAndPicksTheLaterSpec)

/-- ITS FALSE NEIGHBOUR: 'it returns false'. Refute it at one input. -/
def fnEntryBeforeIsStrictAndPicksTheLaterWrong : ChangeSpec := { name := "fnEntryBeforeIsStrictAndPicksTheLater", fn := fun _ => fun
  | [d1, d2, d3, d4] => { results := [.lit (.bool false)], args := [d1, d2, d3, d4] }
  | _ => none }
def FnEntryBeforeIsStrictAndPicksTheLaterWrongFalsely : Prop := fnEntryBeforeIsStrictAndPicksTheLaterRow.holds Trym.pinned (OpenSpec.ofChange fnEntryBeforeIsStrictAndPicksTheLaterWrong)

/-- 'zzlaws_internal_quorum_b1.FnEntryBeforeIsTransitiveAndFindsTheLeast': WHATEVER THE INPUT: true; the input reads as it did. -/
def fnEntryBeforeIsTransitiveAndFindsTheLeastSpec : ChangeSpec := { name := "fnEntryBeforeIsTransitiveAndFindsTheLeast", fn := fun _ => fun
  | [d1, d2, d3, d4, d5, d6] => { results := [.lit (.bool true)], args := [d1, d2, d3, d4, d5, d6] }
  | _ => none }
def fnEntryBeforeIsTransitiveAndFindsTheLeastRow : OpenClaim := { program := "qxb6613818amods", sum := "ce7f443c4d1497d0ac760ac32194d648a42db21beca33f0c7e3583b9589ac89f", func := "example.com/reconcord/reconcord/zzlaws_internal_quorum_b1.FnEntryBeforeIsTransitiveAndFindsTheLeast", spec := "fnEntryBeforeIsTransitiveAndFindsTheLeast", make := .lifted ["publicsums"], apart := false }
def FnEntryBeforeIsTransitiveAndFindsTheLeastSaid : Prop := fnEntryBeforeIsTransitiveAndFindsTheLeastRow.holds Trym.pinned (OpenSpec.ofChange fnEntryBeforeIsTransitiveAndFindsTheLeastSpec)

/-- ITS FALSE NEIGHBOUR: 'it returns false'. Refute it at one input. -/
def fnEntryBeforeIsTransitiveAndFindsTheLeastWrong : ChangeSpec := { name := "fnEntryBeforeIsTransitiveAndFindsTheLeast", fn := fun _ => fun
  | [d1, d2, d3, d4, d5, d6] => { results := [.lit (.bool false)], args := [d1, d2, d3, d4, d5, d6] }
  | _ => none }
def FnEntryBeforeIsTransitiveAndFindsTheLeastWrongFalsely : Prop := fnEntryBeforeIsTransitiveAndFindsTheLeastRow.holds Trym.pinned (OpenSpec.ofChange fnEntryBeforeIsTransitiveAndFindsTheLeastWrong)

end Rows
end Go.Proofs.Qxb6613818aMods
