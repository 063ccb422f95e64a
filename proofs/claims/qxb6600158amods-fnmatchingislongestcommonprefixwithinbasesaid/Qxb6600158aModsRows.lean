/-
  No cell of these rows narrows 'for every input' (looked for: loops, veiled, ifaces, maps, wideKeys, modest, calm, conditions, laid).
  DERIVED. THE GIVEN ROWS OF THIS SEAT. 7 by the template 'for every input the law returns true; each argument reads behind the call as it read before'; 0 by the template 'total and deterministic' (their statements: Qxb6600158aModsTotals.lean).
  GIVEN WITH THE SEED: the statements are not yours to turn. If you find one false, say at which input.
  Laid BY PROGRAM, IN A SANDBOX (cutbox-rows.mjs): the forced cells as the released guide's own fill.sh prints them over the translation 7391d28071a389fa… (all of the seat's roots in one cut). By AI agents, Wed Nov 11 2026. No macro, syntax, notation, axiom, sorry.
-/
import Derived.Test.Qxb6600158aModsChecked
import GoSem.Claim
import GoSem.ClaimJoined
import GoSem.ClaimMapViews
import Derived.JoinedTies
import Derived.KernelRfl
namespace Go.Proofs.Qxb6600158aMods
/- THE CELL 'sum', in the pinned program and in every row, IS THE sha256 OF THE DUMP (.gsa) THAT Qxb6600158aModsProg.lean LOADS. Nothing in Lean hashes anything: it is a label: what it is worth is what the hold of that sum in a sandbox is worth. -/
noncomputable def Trym.pinned : Pinned := { name := "qxb6600158amods", sum := "7391d28071a389fa4578901959183b9fa58811d8ca6e3d7f351009f53ac48ea1", checked := Trym.checked }
namespace Rows
def none {H : Type} : Left H := { results := [], args := [] }

/-- 'zzlaws_repository_b1.FnIsLowerHexSplitsOverConcatenation': WHATEVER THE INPUT: true; the input reads as it did. -/
def fnIsLowerHexSplitsOverConcatenationSpec : ChangeSpec := { name := "fnIsLowerHexSplitsOverConcatenation", fn := fun _ => fun
  | [d1, d2] => { results := [.lit (.bool true)], args := [d1, d2] }
  | _ => none }
def fnIsLowerHexSplitsOverConcatenationRow : OpenClaim := { program := "qxb6600158amods", sum := "7391d28071a389fa4578901959183b9fa58811d8ca6e3d7f351009f53ac48ea1", func := "example.com/amberline/amberline/zzlaws_repository_b1.FnIsLowerHexSplitsOverConcatenation", spec := "fnIsLowerHexSplitsOverConcatenation", make := .lifted ["publicsums"], apart := false }
def FnIsLowerHexSplitsOverConcatenationSaid : Prop := fnIsLowerHexSplitsOverConcatenationRow.holds Trym.pinned (OpenSpec.ofChange fnIsLowerHexSplitsOverConcatenationSpec)

/-- ITS FALSE NEIGHBOUR: 'it returns false'. Refute it at one input. -/
def fnIsLowerHexSplitsOverConcatenationWrong : ChangeSpec := { name := "fnIsLowerHexSplitsOverConcatenation", fn := fun _ => fun
  | [d1, d2] => { results := [.lit (.bool false)], args := [d1, d2] }
  | _ => none }
def FnIsLowerHexSplitsOverConcatenationWrongFalsely : Prop := fnIsLowerHexSplitsOverConcatenationRow.holds Trym.pinned (OpenSpec.ofChange fnIsLowerHexSplitsOverConcatenationWrong)

/-- 'zzlaws_repository_b1.FnIsLowerHexAcceptsLowerEncodingRefusesUpperLetters': WHATEVER THE INPUT: true; the input reads as it did. -/
def fnIsLowerHexAcceptsLowerEncodingRefusesUpperLettersSpec : ChangeSpec := { name := "fnIsLowerHexAcceptsLowerEncodingRefusesUpperLetters", fn := fun _ => fun
  | [d] => { results := [.lit (.bool true)], args := [d] }
  | _ => none }
def fnIsLowerHexAcceptsLowerEncodingRefusesUpperLettersRow : OpenClaim := { program := "qxb6600158amods", sum := "7391d28071a389fa4578901959183b9fa58811d8ca6e3d7f351009f53ac48ea1", func := "example.com/amberline/amberline/zzlaws_repository_b1.FnIsLowerHexAcceptsLowerEncodingRefusesUpperLetters", spec := "fnIsLowerHexAcceptsLowerEncodingRefusesUpperLetters", make := .lifted ["publicsums"], apart := false }
def FnIsLowerHexAcceptsLowerEncodingRefusesUpperLettersSaid : Prop := fnIsLowerHexAcceptsLowerEncodingRefusesUpperLettersRow.holds Trym.pinned (OpenSpec.ofChange fnIsLowerHexAcceptsLowerEncodingRefusesUpperLettersSpec)

/-- ITS FALSE NEIGHBOUR: 'it returns false'. Refute it at one input. -/
def fnIsLowerHexAcceptsLowerEncodingRefusesUpperLettersWrong : ChangeSpec := { name := "fnIsLowerHexAcceptsLowerEncodingRefusesUpperLetters", fn := fun _ => fun
  | [d] => { results := [.lit (.bool false)], args := [d] }
  | _ => none }
def FnIsLowerHexAcceptsLowerEncodingRefusesUpperLettersWrongFalsely : Prop := fnIsLowerHexAcceptsLowerEncodingRefusesUpperLettersRow.holds Trym.pinned (OpenSpec.ofChange fnIsLowerHexAcceptsLowerEncodingRefusesUpperLettersWrong)

/-- 'zzlaws_repository_b1.FnLooksRandomIgnoresUnsampledBytes': WHATEVER THE INPUT: true; the input reads as it did. -/
def fnLooksRandomIgnoresUnsampledBytesSpec : ChangeSpec := { name := "fnLooksRandomIgnoresUnsampledBytes", fn := fun _ => fun
  | [d1, d2, d3] => { results := [.lit (.bool true)], args := [d1, d2, d3] }
  | _ => none }
def fnLooksRandomIgnoresUnsampledBytesRow : OpenClaim := { program := "qxb6600158amods", sum := "7391d28071a389fa4578901959183b9fa58811d8ca6e3d7f351009f53ac48ea1", func := "example.com/amberline/amberline/zzlaws_repository_b1.FnLooksRandomIgnoresUnsampledBytes", spec := "fnLooksRandomIgnoresUnsampledBytes", make := .lifted ["publicsums"], apart := false }
def FnLooksRandomIgnoresUnsampledBytesSaid : Prop := fnLooksRandomIgnoresUnsampledBytesRow.holds Trym.pinned (OpenSpec.ofChange fnLooksRandomIgnoresUnsampledBytesSpec)

/-- ITS FALSE NEIGHBOUR: 'it returns false'. Refute it at one input. -/
def fnLooksRandomIgnoresUnsampledBytesWrong : ChangeSpec := { name := "fnLooksRandomIgnoresUnsampledBytes", fn := fun _ => fun
  | [d1, d2, d3] => { results := [.lit (.bool false)], args := [d1, d2, d3] }
  | _ => none }
def FnLooksRandomIgnoresUnsampledBytesWrongFalsely : Prop := fnLooksRandomIgnoresUnsampledBytesRow.holds Trym.pinned (OpenSpec.ofChange fnLooksRandomIgnoresUnsampledBytesWrong)

/-- 'zzlaws_repository_b1.FnLooksRandomAcceptsEvenlySpreadSample': WHATEVER THE INPUT: true; the input reads as it did. -/
def fnLooksRandomAcceptsEvenlySpreadSampleSpec : ChangeSpec := { name := "fnLooksRandomAcceptsEvenlySpreadSample", fn := fun _ => fun
  | [d] => { results := [.lit (.bool true)], args := [d] }
  | _ => none }
def fnLooksRandomAcceptsEvenlySpreadSampleRow : OpenClaim := { program := "qxb6600158amods", sum := "7391d28071a389fa4578901959183b9fa58811d8ca6e3d7f351009f53ac48ea1", func := "example.com/amberline/amberline/zzlaws_repository_b1.FnLooksRandomAcceptsEvenlySpreadSample", spec := "fnLooksRandomAcceptsEvenlySpreadSample", make := .lifted ["publicsums"], apart := false }
def FnLooksRandomAcceptsEvenlySpreadSampleSaid : Prop := fnLooksRandomAcceptsEvenlySpreadSampleRow.holds Trym.pinned (OpenSpec.ofChange fnLooksRandomAcceptsEvenlySpreadSampleSpec)

/-- ITS FALSE NEIGHBOUR: 'it returns false'. Refute it at one input. -/
def fnLooksRandomAcceptsEvenlySpreadSampleWrong : ChangeSpec := { name := "fnLooksRandomAcceptsEvenlySpreadSample", fn := fun _ => fun
  | [d] => { results := [.lit (.bool false)], args := [d] }
  | _ => none }
def FnLooksRandomAcceptsEvenlySpreadSampleWrongFalsely : Prop := fnLooksRandomAcceptsEvenlySpreadSampleRow.holds Trym.pinned (OpenSpec.ofChange fnLooksRandomAcceptsEvenlySpreadSampleWrong)

/-- 'zzlaws_repository_b1.FnLooksRandomRefusesConstantContent': WHATEVER THE INPUT: true; the input reads as it did. -/
def fnLooksRandomRefusesConstantContentSpec : ChangeSpec := { name := "fnLooksRandomRefusesConstantContent", fn := fun _ => fun
  | [d1, d2] => { results := [.lit (.bool true)], args := [d1, d2] }
  | _ => none }
def fnLooksRandomRefusesConstantContentRow : OpenClaim := { program := "qxb6600158amods", sum := "7391d28071a389fa4578901959183b9fa58811d8ca6e3d7f351009f53ac48ea1", func := "example.com/amberline/amberline/zzlaws_repository_b1.FnLooksRandomRefusesConstantContent", spec := "fnLooksRandomRefusesConstantContent", make := .lifted ["publicsums"], apart := false }
def FnLooksRandomRefusesConstantContentSaid : Prop := fnLooksRandomRefusesConstantContentRow.holds Trym.pinned (OpenSpec.ofChange fnLooksRandomRefusesConstantContentSpec)

/-- ITS FALSE NEIGHBOUR: 'it returns false'. Refute it at one input. -/
def fnLooksRandomRefusesConstantContentWrong : ChangeSpec := { name := "fnLooksRandomRefusesConstantContent", fn := fun _ => fun
  | [d1, d2] => { results := [.lit (.bool false)], args := [d1, d2] }
  | _ => none }
def FnLooksRandomRefusesConstantContentWrongFalsely : Prop := fnLooksRandomRefusesConstantContentRow.holds Trym.pinned (OpenSpec.ofChange fnLooksRandomRefusesConstantContentWrong)

/-- 'zzlaws_repository_b1.FnMatchingIsLongestCommonPrefixWithinBase': WHATEVER THE INPUT: true; the input reads as it did. -/
def fnMatchingIsLongestCommonPrefixWithinBaseSpec : ChangeSpec := { name := "fnMatchingIsLongestCommonPrefixWithinBase", fn := fun _ => fun
  | [d1, d2, d3] => { results := [.lit (.bool true)], args := [d1, d2, d3] }
  | _ => none }
def fnMatchingIsLongestCommonPrefixWithinBaseRow : OpenClaim := { program := "qxb6600158amods", sum := "7391d28071a389fa4578901959183b9fa58811d8ca6e3d7f351009f53ac48ea1", func := "example.com/amberline/amberline/zzlaws_repository_b1.FnMatchingIsLongestCommonPrefixWithinBase", spec := "fnMatchingIsLongestCommonPrefixWithinBase", make := .lifted ["publicsums"], apart := false }
def FnMatchingIsLongestCommonPrefixWithinBaseSaid : Prop := fnMatchingIsLongestCommonPrefixWithinBaseRow.holds Trym.pinned (OpenSpec.ofChange fnMatchingIsLongestCommonPrefixWithinBaseSpec)

/-- ITS FALSE NEIGHBOUR: 'it returns false'. Refute it at one input. -/
def fnMatchingIsLongestCommonPrefixWithinBaseWrong : ChangeSpec := { name := "fnMatchingIsLongestCommonPrefixWithinBase", fn := fun _ => fun
  | [d1, d2, d3] => { results := [.lit (.bool false)], args := [d1, d2, d3] }
  | _ => none }
def FnMatchingIsLongestCommonPrefixWithinBaseWrongFalsely : Prop := fnMatchingIsLongestCommonPrefixWithinBaseRow.holds Trym.pinned (OpenSpec.ofChange fnMatchingIsLongestCommonPrefixWithinBaseWrong)

/-- 'zzlaws_repository_b1.FnMatchingSlidesAlongItsMatch': WHATEVER THE INPUT: true; the input reads as it did. -/
def fnMatchingSlidesAlongItsMatchSpec : ChangeSpec := { name := "fnMatchingSlidesAlongItsMatch", fn := fun _ => fun
  | [d1, d2, d3] => { results := [.lit (.bool true)], args := [d1, d2, d3] }
  | _ => none }
def fnMatchingSlidesAlongItsMatchRow : OpenClaim := { program := "qxb6600158amods", sum := "7391d28071a389fa4578901959183b9fa58811d8ca6e3d7f351009f53ac48ea1", func := "example.com/amberline/amberline/zzlaws_repository_b1.FnMatchingSlidesAlongItsMatch", spec := "fnMatchingSlidesAlongItsMatch", make := .lifted ["publicsums"], apart := false }
def FnMatchingSlidesAlongItsMatchSaid : Prop := fnMatchingSlidesAlongItsMatchRow.holds Trym.pinned (OpenSpec.ofChange fnMatchingSlidesAlongItsMatchSpec)

/-- ITS FALSE NEIGHBOUR: 'it returns false'. Refute it at one input. -/
def fnMatchingSlidesAlongItsMatchWrong : ChangeSpec := { name := "fnMatchingSlidesAlongItsMatch", fn := fun _ => fun
  | [d1, d2, d3] => { results := [.lit (.bool false)], args := [d1, d2, d3] }
  | _ => none }
def FnMatchingSlidesAlongItsMatchWrongFalsely : Prop := fnMatchingSlidesAlongItsMatchRow.holds Trym.pinned (OpenSpec.ofChange fnMatchingSlidesAlongItsMatchWrong)

end Rows
end Go.Proofs.Qxb6600158aMods
