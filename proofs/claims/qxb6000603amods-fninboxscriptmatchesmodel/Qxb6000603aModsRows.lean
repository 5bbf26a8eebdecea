/-
  No cell of these rows narrows 'for every input' (looked for: loops, veiled, ifaces, maps, wideKeys, modest, calm, conditions, laid).
  DERIVED. THE GIVEN ROWS OF THIS SEAT. 6 by the template 'for every input the law returns true; each argument reads behind the call as it read before'; 0 by the template 'total and deterministic' (their statements: Qxb6000603aModsTotals.lean).
  GIVEN WITH THE SEED: the statements are not yours to turn. If you find one false, say at which input.
  Laid BY PROGRAM, IN A SANDBOX (cutbox-rows.mjs): the forced cells as the released guide's own fill.sh prints them over the translation a67c52646693cd4c… (all of the seat's roots in one cut). By AI agents, Wed Nov 11 2026. No macro, syntax, notation, axiom, sorry.
-/
import Derived.Test.Qxb6000603aModsChecked
import GoSem.Claim
import GoSem.ClaimJoined
import GoSem.ClaimMapViews
import Derived.JoinedTies
import Derived.KernelRfl
namespace Go.Proofs.Qxb6000603aMods
/- THE CELL 'sum', in the pinned program and in every row, IS THE sha256 OF THE DUMP (.gsa) THAT Qxb6000603aModsProg.lean LOADS. Nothing in Lean hashes anything: it is a label: what it is worth is what the hold of that sum in a sandbox is worth. -/
noncomputable def Trym.pinned : Pinned := { name := "qxb6000603amods", sum := "a67c52646693cd4c4845541fc58bdd28af9d26af780d098a3cb97847a92ef112", checked := Trym.checked }
namespace Rows
def none {H : Type} : Left H := { results := [], args := [] }

/-- 'zzlaws_root_b1.FnMarkMatchesSetModel': WHATEVER THE INPUT: true; the input reads as it did. -/
def fnMarkMatchesSetModelSpec : ChangeSpec := { name := "fnMarkMatchesSetModel", fn := fun _ => fun
  | [d1, d2, d3, d4, d5] => { results := [.lit (.bool true)], args := [d1, d2, d3, d4, d5] }
  | _ => none }
def fnMarkMatchesSetModelRow : OpenClaim := { program := "qxb6000603amods", sum := "a67c52646693cd4c4845541fc58bdd28af9d26af780d098a3cb97847a92ef112", func := "example.com/heartline/heartline/zzlaws_root_b1.FnMarkMatchesSetModel", spec := "fnMarkMatchesSetModel", make := .lifted ["publicsums"], apart := false }
def FnMarkMatchesSetModelSaid : Prop := fnMarkMatchesSetModelRow.holds Trym.pinned (OpenSpec.ofChange fnMarkMatchesSetModelSpec)

/-- ITS FALSE NEIGHBOUR: 'it returns false'. Refute it at one input. -/
def fnMarkMatchesSetModelWrong : ChangeSpec := { name := "fnMarkMatchesSetModel", fn := fun _ => fun
  | [d1, d2, d3, d4, d5] => { results := [.lit (.bool false)], args := [d1, d2, d3, d4, d5] }
  | _ => none }
def FnMarkMatchesSetModelWrongFalsely : Prop := fnMarkMatchesSetModelRow.holds Trym.pinned (OpenSpec.ofChange fnMarkMatchesSetModelWrong)

/-- 'zzlaws_root_b1.FnMarkIsIdempotent': WHATEVER THE INPUT: true; the input reads as it did. -/
def fnMarkIsIdempotentSpec : ChangeSpec := { name := "fnMarkIsIdempotent", fn := fun _ => fun
  | [d1, d2, d3, d4, d5] => { results := [.lit (.bool true)], args := [d1, d2, d3, d4, d5] }
  | _ => none }
def fnMarkIsIdempotentRow : OpenClaim := { program := "qxb6000603amods", sum := "a67c52646693cd4c4845541fc58bdd28af9d26af780d098a3cb97847a92ef112", func := "example.com/heartline/heartline/zzlaws_root_b1.FnMarkIsIdempotent", spec := "fnMarkIsIdempotent", make := .lifted ["publicsums"], apart := false }
def FnMarkIsIdempotentSaid : Prop := fnMarkIsIdempotentRow.holds Trym.pinned (OpenSpec.ofChange fnMarkIsIdempotentSpec)

/-- ITS FALSE NEIGHBOUR: 'it returns false'. Refute it at one input. -/
def fnMarkIsIdempotentWrong : ChangeSpec := { name := "fnMarkIsIdempotent", fn := fun _ => fun
  | [d1, d2, d3, d4, d5] => { results := [.lit (.bool false)], args := [d1, d2, d3, d4, d5] }
  | _ => none }
def FnMarkIsIdempotentWrongFalsely : Prop := fnMarkIsIdempotentRow.holds Trym.pinned (OpenSpec.ofChange fnMarkIsIdempotentWrong)

/-- 'zzlaws_root_b1.FnMarkAddThenRemoveRestores': WHATEVER THE INPUT: true; the input reads as it did. -/
def fnMarkAddThenRemoveRestoresSpec : ChangeSpec := { name := "fnMarkAddThenRemoveRestores", fn := fun _ => fun
  | [d1, d2, d3, d4] => { results := [.lit (.bool true)], args := [d1, d2, d3, d4] }
  | _ => none }
def fnMarkAddThenRemoveRestoresRow : OpenClaim := { program := "qxb6000603amods", sum := "a67c52646693cd4c4845541fc58bdd28af9d26af780d098a3cb97847a92ef112", func := "example.com/heartline/heartline/zzlaws_root_b1.FnMarkAddThenRemoveRestores", spec := "fnMarkAddThenRemoveRestores", make := .lifted ["publicsums"], apart := false }
def FnMarkAddThenRemoveRestoresSaid : Prop := fnMarkAddThenRemoveRestoresRow.holds Trym.pinned (OpenSpec.ofChange fnMarkAddThenRemoveRestoresSpec)

/-- ITS FALSE NEIGHBOUR: 'it returns false'. Refute it at one input. -/
def fnMarkAddThenRemoveRestoresWrong : ChangeSpec := { name := "fnMarkAddThenRemoveRestores", fn := fun _ => fun
  | [d1, d2, d3, d4] => { results := [.lit (.bool false)], args := [d1, d2, d3, d4] }
  | _ => none }
def FnMarkAddThenRemoveRestoresWrongFalsely : Prop := fnMarkAddThenRemoveRestoresRow.holds Trym.pinned (OpenSpec.ofChange fnMarkAddThenRemoveRestoresWrong)

/-- 'zzlaws_root_b1.FnTakeReleasesAPrefixAndIsIdempotent': WHATEVER THE INPUT: true; the input reads as it did. -/
def fnTakeReleasesAPrefixAndIsIdempotentSpec : ChangeSpec := { name := "fnTakeReleasesAPrefixAndIsIdempotent", fn := fun _ => fun
  | [d1, d2, d3, d4] => { results := [.lit (.bool true)], args := [d1, d2, d3, d4] }
  | _ => none }
def fnTakeReleasesAPrefixAndIsIdempotentRow : OpenClaim := { program := "qxb6000603amods", sum := "a67c52646693cd4c4845541fc58bdd28af9d26af780d098a3cb97847a92ef112", func := "example.com/heartline/heartline/zzlaws_root_b1.FnTakeReleasesAPrefixAndIsIdempotent", spec := "fnTakeReleasesAPrefixAndIsIdempotent", make := .lifted ["publicsums"], apart := false }
def FnTakeReleasesAPrefixAndIsIdempotentSaid : Prop := fnTakeReleasesAPrefixAndIsIdempotentRow.holds Trym.pinned (OpenSpec.ofChange fnTakeReleasesAPrefixAndIsIdempotentSpec)

/-- ITS FALSE NEIGHBOUR: 'it returns false'. Refute it at one input. -/
def fnTakeReleasesAPrefixAndIsIdempotentWrong : ChangeSpec := { name := "fnTakeReleasesAPrefixAndIsIdempotent", fn := fun _ => fun
  | [d1, d2, d3, d4] => { results := [.lit (.bool false)], args := [d1, d2, d3, d4] }
  | _ => none }
def FnTakeReleasesAPrefixAndIsIdempotentWrongFalsely : Prop := fnTakeReleasesAPrefixAndIsIdempotentRow.holds Trym.pinned (OpenSpec.ofChange fnTakeReleasesAPrefixAndIsIdempotentWrong)

/-- 'zzlaws_root_b1.FnTakeReleasesExactlyTheTakenFrames': WHATEVER THE INPUT: true; the input reads as it did. -/
def fnTakeReleasesExactlyTheTakenFramesSpec : ChangeSpec := { name := "fnTakeReleasesExactlyTheTakenFrames", fn := fun _ => fun
  | [d1, d2, d3, d4] => { results := [.lit (.bool true)], args := [d1, d2, d3, d4] }
  | _ => none }
def fnTakeReleasesExactlyTheTakenFramesRow : OpenClaim := { program := "qxb6000603amods", sum := "a67c52646693cd4c4845541fc58bdd28af9d26af780d098a3cb97847a92ef112", func := "example.com/heartline/heartline/zzlaws_root_b1.FnTakeReleasesExactlyTheTakenFrames", spec := "fnTakeReleasesExactlyTheTakenFrames", make := .lifted ["publicsums"], apart := false }
def FnTakeReleasesExactlyTheTakenFramesSaid : Prop := fnTakeReleasesExactlyTheTakenFramesRow.holds Trym.pinned (OpenSpec.ofChange fnTakeReleasesExactlyTheTakenFramesSpec)

/-- ITS FALSE NEIGHBOUR: 'it returns false'. Refute it at one input. -/
def fnTakeReleasesExactlyTheTakenFramesWrong : ChangeSpec := { name := "fnTakeReleasesExactlyTheTakenFrames", fn := fun _ => fun
  | [d1, d2, d3, d4] => { results := [.lit (.bool false)], args := [d1, d2, d3, d4] }
  | _ => none }
def FnTakeReleasesExactlyTheTakenFramesWrongFalsely : Prop := fnTakeReleasesExactlyTheTakenFramesRow.holds Trym.pinned (OpenSpec.ofChange fnTakeReleasesExactlyTheTakenFramesWrong)

/-- 'zzlaws_root_b1.FnInboxScriptMatchesModel': WHATEVER THE INPUT: true; the input reads as it did. -/
def fnInboxScriptMatchesModelSpec : ChangeSpec := { name := "fnInboxScriptMatchesModel", fn := fun _ => fun
  | [d1, d2, d3] => { results := [.lit (.bool true)], args := [d1, d2, d3] }
  | _ => none }
def fnInboxScriptMatchesModelRow : OpenClaim := { program := "qxb6000603amods", sum := "a67c52646693cd4c4845541fc58bdd28af9d26af780d098a3cb97847a92ef112", func := "example.com/heartline/heartline/zzlaws_root_b1.FnInboxScriptMatchesModel", spec := "fnInboxScriptMatchesModel", make := .lifted ["publicsums"], apart := false }
def FnInboxScriptMatchesModelSaid : Prop := fnInboxScriptMatchesModelRow.holds Trym.pinned (OpenSpec.ofChange fnInboxScriptMatchesModelSpec)

/-- ITS FALSE NEIGHBOUR: 'it returns false'. Refute it at one input. -/
def fnInboxScriptMatchesModelWrong : ChangeSpec := { name := "fnInboxScriptMatchesModel", fn := fun _ => fun
  | [d1, d2, d3] => { results := [.lit (.bool false)], args := [d1, d2, d3] }
  | _ => none }
def FnInboxScriptMatchesModelWrongFalsely : Prop := fnInboxScriptMatchesModelRow.holds Trym.pinned (OpenSpec.ofChange fnInboxScriptMatchesModelWrong)

end Rows
end Go.Proofs.Qxb6000603aMods
