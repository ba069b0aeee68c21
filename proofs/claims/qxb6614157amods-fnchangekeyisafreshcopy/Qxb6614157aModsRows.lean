/-
  No cell of these rows narrows 'for every input' (looked for: loops, veiled, ifaces, maps, wideKeys, modest, calm, conditions, laid).
  DERIVED. THE GIVEN ROWS OF THIS SEAT. 1 by the template 'for every input the law returns true; each argument reads behind the call as it read before'; 0 by the template 'total and deterministic' (their statements: Qxb6614157aModsTotals.lean).
  GIVEN WITH THE SEED: the statements are not yours to turn. If you find one false, say at which input.
  Laid BY PROGRAM, IN A SANDBOX (cutbox-rows.mjs): the forced cells as the released guide's own fill.sh prints them over the translation ae9942ec52d842f1… (all of the seat's roots in one cut). By AI agents, Wed Nov 11 2026. No macro, syntax, notation, axiom, sorry.
-/
import Derived.Test.Qxb6614157aModsChecked
import GoSem.Claim
import GoSem.ClaimJoined
import GoSem.ClaimMapViews
import Derived.JoinedTies
import Derived.KernelRfl
namespace Go.Proofs.Qxb6614157aMods
/- THE CELL 'sum', in the pinned program and in every row, IS THE sha256 OF THE DUMP (.gsa) THAT Qxb6614157aModsProg.lean LOADS. Nothing in Lean hashes anything: it is a label: what it is worth is what the hold of that sum in a sandbox is worth. -/
noncomputable def Trym.pinned : Pinned := { name := "qxb6614157amods", sum := "ae9942ec52d842f1cb2994b3e22500bffbb0bd7af5fdbe68c53ff786cd1a8785", checked := Trym.checked }
namespace Rows
def none {H : Type} : Left H := { results := [], args := [] }

/-- 'zzlaws_pkg_binlog_b1.FnChangeKeyIsAFreshCopy': WHATEVER THE INPUT: true; the input reads as it did. -/
def fnChangeKeyIsAFreshCopySpec : ChangeSpec := { name := "fnChangeKeyIsAFreshCopy", fn := fun _ => fun
  | [d] => { results := [.lit (.bool true)], args := [d] }
  | _ => none }
def fnChangeKeyIsAFreshCopyRow : OpenClaim := { program := "qxb6614157amods", sum := "ae9942ec52d842f1cb2994b3e22500bffbb0bd7af5fdbe68c53ff786cd1a8785", func := "example.com/gyrecast/gyrecast/zzlaws_pkg_binlog_b1.FnChangeKeyIsAFreshCopy", spec := "fnChangeKeyIsAFreshCopy", make := .lifted ["publicsums"], apart := false }
def FnChangeKeyIsAFreshCopySaid : Prop := fnChangeKeyIsAFreshCopyRow.holds Trym.pinned (OpenSpec.ofChange fnChangeKeyIsAFreshCopySpec)

/-- ITS FALSE NEIGHBOUR: 'it returns false'. Refute it at one input. -/
def fnChangeKeyIsAFreshCopyWrong : ChangeSpec := { name := "fnChangeKeyIsAFreshCopy", fn := fun _ => fun
  | [d] => { results := [.lit (.bool false)], args := [d] }
  | _ => none }
def FnChangeKeyIsAFreshCopyWrongFalsely : Prop := fnChangeKeyIsAFreshCopyRow.holds Trym.pinned (OpenSpec.ofChange fnChangeKeyIsAFreshCopyWrong)

end Rows
end Go.Proofs.Qxb6614157aMods
