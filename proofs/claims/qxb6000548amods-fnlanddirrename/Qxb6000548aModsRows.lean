/-
  No cell of these rows narrows 'for every input' (looked for: loops, veiled, ifaces, maps, wideKeys, modest, calm, conditions, laid).
  DERIVED. THE GIVEN ROWS OF THIS SEAT. 4 by the template 'for every input the law returns true; each argument reads behind the call as it read before'; 0 by the template 'total and deterministic' (their statements: Qxb6000548aModsTotals.lean).
  GIVEN WITH THE SEED: the statements are not yours to turn. If you find one false, say at which input.
  Laid BY PROGRAM, IN A SANDBOX (cutbox-rows.mjs): the forced cells as the released guide's own fill.sh prints them over the translation a1e62cea40d6d303… (all of the seat's roots in one cut). By AI agents, Wed Nov 11 2026. No macro, syntax, notation, axiom, sorry.
-/
import Derived.Test.Qxb6000548aModsChecked
import GoSem.Claim
import GoSem.ClaimJoined
import GoSem.ClaimMapViews
import Derived.JoinedTies
import Derived.KernelRfl
namespace Go.Proofs.Qxb6000548aMods
/- THE CELL 'sum', in the pinned program and in every row, IS THE sha256 OF THE DUMP (.gsa) THAT Qxb6000548aModsProg.lean LOADS. Nothing in Lean hashes anything: it is a label: what it is worth is what the hold of that sum in a sandbox is worth. -/
noncomputable def Trym.pinned : Pinned := { name := "qxb6000548amods", sum := "a1e62cea40d6d3032295400961ebcbf4a6330c7ca122bf4facd093e4981484ce", checked := Trym.checked }
namespace Rows
def none {H : Type} : Left H := { results := [], args := [] }

/-- 'zzlaws_internal_sim_b1.FnLandWriteMatchesModel': WHATEVER THE INPUT: true; the input reads as it did. -/
def fnLandWriteMatchesModelSpec : ChangeSpec := { name := "fnLandWriteMatchesModel", fn := fun _ => fun
  | [d1, d2, d3] => { results := [.lit (.bool true)], args := [d1, d2, d3] }
  | _ => none }
def fnLandWriteMatchesModelRow : OpenClaim := { program := "qxb6000548amods", sum := "a1e62cea40d6d3032295400961ebcbf4a6330c7ca122bf4facd093e4981484ce", func := "example.com/assentor/assentor/zzlaws_internal_sim_b1.FnLandWriteMatchesModel", spec := "fnLandWriteMatchesModel", make := .lifted ["publicsums"], apart := false }
def FnLandWriteMatchesModelSaid : Prop := fnLandWriteMatchesModelRow.holds Trym.pinned (OpenSpec.ofChange fnLandWriteMatchesModelSpec)

/-- ITS FALSE NEIGHBOUR: 'it returns false'. Refute it at one input. -/
def fnLandWriteMatchesModelWrong : ChangeSpec := { name := "fnLandWriteMatchesModel", fn := fun _ => fun
  | [d1, d2, d3] => { results := [.lit (.bool false)], args := [d1, d2, d3] }
  | _ => none }
def FnLandWriteMatchesModelWrongFalsely : Prop := fnLandWriteMatchesModelRow.holds Trym.pinned (OpenSpec.ofChange fnLandWriteMatchesModelWrong)

/-- 'zzlaws_internal_sim_b1.FnLandTruncateMatchesModel': WHATEVER THE INPUT: true; the input reads as it did. -/
def fnLandTruncateMatchesModelSpec : ChangeSpec := { name := "fnLandTruncateMatchesModel", fn := fun _ => fun
  | [d1, d2] => { results := [.lit (.bool true)], args := [d1, d2] }
  | _ => none }
def fnLandTruncateMatchesModelRow : OpenClaim := { program := "qxb6000548amods", sum := "a1e62cea40d6d3032295400961ebcbf4a6330c7ca122bf4facd093e4981484ce", func := "example.com/assentor/assentor/zzlaws_internal_sim_b1.FnLandTruncateMatchesModel", spec := "fnLandTruncateMatchesModel", make := .lifted ["publicsums"], apart := false }
def FnLandTruncateMatchesModelSaid : Prop := fnLandTruncateMatchesModelRow.holds Trym.pinned (OpenSpec.ofChange fnLandTruncateMatchesModelSpec)

/-- ITS FALSE NEIGHBOUR: 'it returns false'. Refute it at one input. -/
def fnLandTruncateMatchesModelWrong : ChangeSpec := { name := "fnLandTruncateMatchesModel", fn := fun _ => fun
  | [d1, d2] => { results := [.lit (.bool false)], args := [d1, d2] }
  | _ => none }
def FnLandTruncateMatchesModelWrongFalsely : Prop := fnLandTruncateMatchesModelRow.holds Trym.pinned (OpenSpec.ofChange fnLandTruncateMatchesModelWrong)

/-- 'zzlaws_internal_sim_b1.FnLandTwiceIsOnce': WHATEVER THE INPUT: true; the input reads as it did. -/
def fnLandTwiceIsOnceSpec : ChangeSpec := { name := "fnLandTwiceIsOnce", fn := fun _ => fun
  | [d1, d2, d3, d4, d5] => { results := [.lit (.bool true)], args := [d1, d2, d3, d4, d5] }
  | _ => none }
def fnLandTwiceIsOnceRow : OpenClaim := { program := "qxb6000548amods", sum := "a1e62cea40d6d3032295400961ebcbf4a6330c7ca122bf4facd093e4981484ce", func := "example.com/assentor/assentor/zzlaws_internal_sim_b1.FnLandTwiceIsOnce", spec := "fnLandTwiceIsOnce", make := .lifted ["publicsums"], apart := false }
def FnLandTwiceIsOnceSaid : Prop := fnLandTwiceIsOnceRow.holds Trym.pinned (OpenSpec.ofChange fnLandTwiceIsOnceSpec)

/-- ITS FALSE NEIGHBOUR: 'it returns false'. Refute it at one input. -/
def fnLandTwiceIsOnceWrong : ChangeSpec := { name := "fnLandTwiceIsOnce", fn := fun _ => fun
  | [d1, d2, d3, d4, d5] => { results := [.lit (.bool false)], args := [d1, d2, d3, d4, d5] }
  | _ => none }
def FnLandTwiceIsOnceWrongFalsely : Prop := fnLandTwiceIsOnceRow.holds Trym.pinned (OpenSpec.ofChange fnLandTwiceIsOnceWrong)

/-- 'zzlaws_internal_sim_b1.FnLandDirRename': WHATEVER THE INPUT: true; the input reads as it did. -/
def fnLandDirRenameSpec : ChangeSpec := { name := "fnLandDirRename", fn := fun _ => fun
  | [d1, d2, d3, d4] => { results := [.lit (.bool true)], args := [d1, d2, d3, d4] }
  | _ => none }
def fnLandDirRenameRow : OpenClaim := { program := "qxb6000548amods", sum := "a1e62cea40d6d3032295400961ebcbf4a6330c7ca122bf4facd093e4981484ce", func := "example.com/assentor/assentor/zzlaws_internal_sim_b1.FnLandDirRename", spec := "fnLandDirRename", make := .lifted ["publicsums"], apart := false }
def FnLandDirRenameSaid : Prop := fnLandDirRenameRow.holds Trym.pinned (OpenSpec.ofChange fnLandDirRenameSpec)

/-- ITS FALSE NEIGHBOUR: 'it returns false'. Refute it at one input. -/
def fnLandDirRenameWrong : ChangeSpec := { name := "fnLandDirRename", fn := fun _ => fun
  | [d1, d2, d3, d4] => { results := [.lit (.bool false)], args := [d1, d2, d3, d4] }
  | _ => none }
def FnLandDirRenameWrongFalsely : Prop := fnLandDirRenameRow.holds Trym.pinned (OpenSpec.ofChange fnLandDirRenameWrong)

end Rows
end Go.Proofs.Qxb6000548aMods
