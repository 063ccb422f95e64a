/-
  No cell of these rows narrows 'for every input' (looked for: loops, veiled, ifaces, maps, wideKeys, modest, calm, conditions, laid).
  DERIVED. THE GIVEN ROWS OF THIS SEAT. 4 by the template 'for every input the law returns true; each argument reads behind the call as it read before'; 0 by the template 'total and deterministic' (their statements: Qxb6605334aModsTotals.lean).
  GIVEN WITH THE SEED: the statements are not yours to turn. If you find one false, say at which input.
  Laid BY PROGRAM, IN A SANDBOX (cutbox-rows.mjs): the forced cells as the released guide's own fill.sh prints them over the translation 1888d3ebe0e5d015… (all of the seat's roots in one cut). By AI agents, Wed Nov 11 2026. No macro, syntax, notation, axiom, sorry.
-/
import Derived.Test.Qxb6605334aModsChecked
import GoSem.Claim
import GoSem.ClaimJoined
import GoSem.ClaimMapViews
import Derived.JoinedTies
import Derived.KernelRfl
namespace Go.Proofs.Qxb6605334aMods
/- THE CELL 'sum', in the pinned program and in every row, IS THE sha256 OF THE DUMP (.gsa) THAT Qxb6605334aModsProg.lean LOADS. Nothing in Lean hashes anything: it is a label: what it is worth is what the hold of that sum in a sandbox is worth. -/
noncomputable def Trym.pinned : Pinned := { name := "qxb6605334amods", sum := "1888d3ebe0e5d015d7457a95e62e2f7cbcceb4ed0d122c66abc345cd1a234954", checked := Trym.checked }
namespace Rows
def none {H : Type} : Left H := { results := [], args := [] }

/-- 'zzlaws_root_b1.FnStripCommentCutsAtFirstBareHash': WHATEVER THE INPUT: true; the input reads as it did. -/
def fnStripCommentCutsAtFirstBareHashSpec : ChangeSpec := { name := "fnStripCommentCutsAtFirstBareHash", fn := fun _ => fun
  | [d] => { results := [.lit (.bool true)], args := [d] }
  | _ => none }
def fnStripCommentCutsAtFirstBareHashRow : OpenClaim := { program := "qxb6605334amods", sum := "1888d3ebe0e5d015d7457a95e62e2f7cbcceb4ed0d122c66abc345cd1a234954", func := "example.com/vetter/vetter/zzlaws_root_b1.FnStripCommentCutsAtFirstBareHash", spec := "fnStripCommentCutsAtFirstBareHash", make := .lifted ["publicsums"], apart := false }
def FnStripCommentCutsAtFirstBareHashSaid : Prop := fnStripCommentCutsAtFirstBareHashRow.holds Trym.pinned (OpenSpec.ofChange fnStripCommentCutsAtFirstBareHashSpec)

/-- ITS FALSE NEIGHBOUR: 'it returns false'. Refute it at one input. -/
def fnStripCommentCutsAtFirstBareHashWrong : ChangeSpec := { name := "fnStripCommentCutsAtFirstBareHash", fn := fun _ => fun
  | [d] => { results := [.lit (.bool false)], args := [d] }
  | _ => none }
def FnStripCommentCutsAtFirstBareHashWrongFalsely : Prop := fnStripCommentCutsAtFirstBareHashRow.holds Trym.pinned (OpenSpec.ofChange fnStripCommentCutsAtFirstBareHashWrong)

/-- 'zzlaws_root_b1.FnStripCommentKeepsItsCutUnderAppending': WHATEVER THE INPUT: true; the input reads as it did. -/
def fnStripCommentKeepsItsCutUnderAppendingSpec : ChangeSpec := { name := "fnStripCommentKeepsItsCutUnderAppending", fn := fun _ => fun
  | [d1, d2] => { results := [.lit (.bool true)], args := [d1, d2] }
  | _ => none }
def fnStripCommentKeepsItsCutUnderAppendingRow : OpenClaim := { program := "qxb6605334amods", sum := "1888d3ebe0e5d015d7457a95e62e2f7cbcceb4ed0d122c66abc345cd1a234954", func := "example.com/vetter/vetter/zzlaws_root_b1.FnStripCommentKeepsItsCutUnderAppending", spec := "fnStripCommentKeepsItsCutUnderAppending", make := .lifted ["publicsums"], apart := false }
def FnStripCommentKeepsItsCutUnderAppendingSaid : Prop := fnStripCommentKeepsItsCutUnderAppendingRow.holds Trym.pinned (OpenSpec.ofChange fnStripCommentKeepsItsCutUnderAppendingSpec)

/-- ITS FALSE NEIGHBOUR: 'it returns false'. Refute it at one input. -/
def fnStripCommentKeepsItsCutUnderAppendingWrong : ChangeSpec := { name := "fnStripCommentKeepsItsCutUnderAppending", fn := fun _ => fun
  | [d1, d2] => { results := [.lit (.bool false)], args := [d1, d2] }
  | _ => none }
def FnStripCommentKeepsItsCutUnderAppendingWrongFalsely : Prop := fnStripCommentKeepsItsCutUnderAppendingRow.holds Trym.pinned (OpenSpec.ofChange fnStripCommentKeepsItsCutUnderAppendingWrong)

/-- 'zzlaws_root_b1.FnJsonDepthIsHighestBareBalance': WHATEVER THE INPUT: true; the input reads as it did. -/
def fnJsonDepthIsHighestBareBalanceSpec : ChangeSpec := { name := "fnJsonDepthIsHighestBareBalance", fn := fun _ => fun
  | [d] => { results := [.lit (.bool true)], args := [d] }
  | _ => none }
def fnJsonDepthIsHighestBareBalanceRow : OpenClaim := { program := "qxb6605334amods", sum := "1888d3ebe0e5d015d7457a95e62e2f7cbcceb4ed0d122c66abc345cd1a234954", func := "example.com/vetter/vetter/zzlaws_root_b1.FnJsonDepthIsHighestBareBalance", spec := "fnJsonDepthIsHighestBareBalance", make := .lifted ["publicsums"], apart := false }
def FnJsonDepthIsHighestBareBalanceSaid : Prop := fnJsonDepthIsHighestBareBalanceRow.holds Trym.pinned (OpenSpec.ofChange fnJsonDepthIsHighestBareBalanceSpec)

/-- ITS FALSE NEIGHBOUR: 'it returns false'. Refute it at one input. -/
def fnJsonDepthIsHighestBareBalanceWrong : ChangeSpec := { name := "fnJsonDepthIsHighestBareBalance", fn := fun _ => fun
  | [d] => { results := [.lit (.bool false)], args := [d] }
  | _ => none }
def FnJsonDepthIsHighestBareBalanceWrongFalsely : Prop := fnJsonDepthIsHighestBareBalanceRow.holds Trym.pinned (OpenSpec.ofChange fnJsonDepthIsHighestBareBalanceWrong)

/-- 'zzlaws_root_b1.FnJsonDepthWrappingAddsOne': WHATEVER THE INPUT: true; the input reads as it did. -/
def fnJsonDepthWrappingAddsOneSpec : ChangeSpec := { name := "fnJsonDepthWrappingAddsOne", fn := fun _ => fun
  | [d] => { results := [.lit (.bool true)], args := [d] }
  | _ => none }
def fnJsonDepthWrappingAddsOneRow : OpenClaim := { program := "qxb6605334amods", sum := "1888d3ebe0e5d015d7457a95e62e2f7cbcceb4ed0d122c66abc345cd1a234954", func := "example.com/vetter/vetter/zzlaws_root_b1.FnJsonDepthWrappingAddsOne", spec := "fnJsonDepthWrappingAddsOne", make := .lifted ["publicsums"], apart := false }
def FnJsonDepthWrappingAddsOneSaid : Prop := fnJsonDepthWrappingAddsOneRow.holds Trym.pinned (OpenSpec.ofChange fnJsonDepthWrappingAddsOneSpec)

/-- ITS FALSE NEIGHBOUR: 'it returns false'. Refute it at one input. -/
def fnJsonDepthWrappingAddsOneWrong : ChangeSpec := { name := "fnJsonDepthWrappingAddsOne", fn := fun _ => fun
  | [d] => { results := [.lit (.bool false)], args := [d] }
  | _ => none }
def FnJsonDepthWrappingAddsOneWrongFalsely : Prop := fnJsonDepthWrappingAddsOneRow.holds Trym.pinned (OpenSpec.ofChange fnJsonDepthWrappingAddsOneWrong)

end Rows
end Go.Proofs.Qxb6605334aMods
