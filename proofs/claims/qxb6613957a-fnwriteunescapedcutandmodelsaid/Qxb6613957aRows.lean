/-
  No cell of these rows narrows 'for every input' (looked for: loops, veiled, ifaces, maps, wideKeys, modest, calm, conditions, laid).
  DERIVED. THE GIVEN ROWS OF THIS SEAT. 5 by the template 'for every input the law returns true; each argument reads behind the call as it read before'; 0 by the template 'total and deterministic' (their statements: Qxb6613957aTotals.lean).
  GIVEN WITH THE SEED: the statements are not yours to turn. If you find one false, say at which input.
  Laid BY PROGRAM, IN A SANDBOX (cutbox-rows.mjs): the forced cells as the released guide's own fill.sh prints them over the translation d1e53ccff17488f9… (all of the seat's roots in one cut). By AI agents, Wed Nov 11 2026. No macro, syntax, notation, axiom, sorry.
-/
import Derived.Test.Qxb6613957aChecked
import GoSem.Claim
import GoSem.ClaimJoined
import GoSem.ClaimMapViews
import Derived.JoinedTies
import Derived.KernelRfl
namespace Go.Proofs.Qxb6613957a
/- THE CELL 'sum', in the pinned program and in every row, IS THE sha256 OF THE DUMP (.gsa) THAT Qxb6613957aProg.lean LOADS. Nothing in Lean hashes anything: it is a label: what it is worth is what the hold of that sum in a sandbox is worth. -/
noncomputable def Try.pinned : Pinned := { name := "qxb6613957a", sum := "d1e53ccff17488f9fd63b13e385771230eefcb9edd724d4dfba02085a82abb15", checked := Try.checked }
namespace Rows
def none {H : Type} : Left H := { results := [], args := [] }

/-- 'zzlaws_pkg_engine_b1.FnZeroPaddedSignAndLeadingZero': WHATEVER THE INPUT: true; the input reads as it did. -/
def fnZeroPaddedSignAndLeadingZeroSpec : ChangeSpec := { name := "fnZeroPaddedSignAndLeadingZero", fn := fun _ => fun
  | [d] => { results := [.lit (.bool true)], args := [d] }
  | _ => none }
def fnZeroPaddedSignAndLeadingZeroRow : OpenClaim := { program := "qxb6613957a", sum := "d1e53ccff17488f9fd63b13e385771230eefcb9edd724d4dfba02085a82abb15", func := "example.com/portcullis/portcullis/zzlaws_pkg_engine_b1.FnZeroPaddedSignAndLeadingZero", spec := "fnZeroPaddedSignAndLeadingZero", apart := false }
def FnZeroPaddedSignAndLeadingZeroSaid : Prop := fnZeroPaddedSignAndLeadingZeroRow.holds Try.pinned (OpenSpec.ofChange fnZeroPaddedSignAndLeadingZeroSpec)

/-- ITS FALSE NEIGHBOUR: 'it returns false'. Refute it at one input. -/
def fnZeroPaddedSignAndLeadingZeroWrong : ChangeSpec := { name := "fnZeroPaddedSignAndLeadingZero", fn := fun _ => fun
  | [d] => { results := [.lit (.bool false)], args := [d] }
  | _ => none }
def FnZeroPaddedSignAndLeadingZeroWrongFalsely : Prop := fnZeroPaddedSignAndLeadingZeroRow.holds Try.pinned (OpenSpec.ofChange fnZeroPaddedSignAndLeadingZeroWrong)

/-- 'zzlaws_pkg_engine_b1.FnZeroPaddedJoinAndModel': WHATEVER THE INPUT: true; the input reads as it did. -/
def fnZeroPaddedJoinAndModelSpec : ChangeSpec := { name := "fnZeroPaddedJoinAndModel", fn := fun _ => fun
  | [d1, d2] => { results := [.lit (.bool true)], args := [d1, d2] }
  | _ => none }
def fnZeroPaddedJoinAndModelRow : OpenClaim := { program := "qxb6613957a", sum := "d1e53ccff17488f9fd63b13e385771230eefcb9edd724d4dfba02085a82abb15", func := "example.com/portcullis/portcullis/zzlaws_pkg_engine_b1.FnZeroPaddedJoinAndModel", spec := "fnZeroPaddedJoinAndModel", apart := false }
def FnZeroPaddedJoinAndModelSaid : Prop := fnZeroPaddedJoinAndModelRow.holds Try.pinned (OpenSpec.ofChange fnZeroPaddedJoinAndModelSpec)

/-- ITS FALSE NEIGHBOUR: 'it returns false'. Refute it at one input. -/
def fnZeroPaddedJoinAndModelWrong : ChangeSpec := { name := "fnZeroPaddedJoinAndModel", fn := fun _ => fun
  | [d1, d2] => { results := [.lit (.bool false)], args := [d1, d2] }
  | _ => none }
def FnZeroPaddedJoinAndModelWrongFalsely : Prop := fnZeroPaddedJoinAndModelRow.holds Try.pinned (OpenSpec.ofChange fnZeroPaddedJoinAndModelWrong)

/-- 'zzlaws_pkg_engine_b1.FnMCPToolCollidesOnlyAtTrailingUnderscore': WHATEVER THE INPUT: true; the input reads as it did. -/
def fnMCPToolCollidesOnlyAtTrailingUnderscoreSpec : ChangeSpec := { name := "fnMCPToolCollidesOnlyAtTrailingUnderscore", fn := fun _ => fun
  | [d1, d2, d3, d4] => { results := [.lit (.bool true)], args := [d1, d2, d3, d4] }
  | _ => none }
def fnMCPToolCollidesOnlyAtTrailingUnderscoreRow : OpenClaim := { program := "qxb6613957a", sum := "d1e53ccff17488f9fd63b13e385771230eefcb9edd724d4dfba02085a82abb15", func := "example.com/portcullis/portcullis/zzlaws_pkg_engine_b1.FnMCPToolCollidesOnlyAtTrailingUnderscore", spec := "fnMCPToolCollidesOnlyAtTrailingUnderscore", apart := false }
def FnMCPToolCollidesOnlyAtTrailingUnderscoreSaid : Prop := fnMCPToolCollidesOnlyAtTrailingUnderscoreRow.holds Try.pinned (OpenSpec.ofChange fnMCPToolCollidesOnlyAtTrailingUnderscoreSpec)

/-- ITS FALSE NEIGHBOUR: 'it returns false'. Refute it at one input. -/
def fnMCPToolCollidesOnlyAtTrailingUnderscoreWrong : ChangeSpec := { name := "fnMCPToolCollidesOnlyAtTrailingUnderscore", fn := fun _ => fun
  | [d1, d2, d3, d4] => { results := [.lit (.bool false)], args := [d1, d2, d3, d4] }
  | _ => none }
def FnMCPToolCollidesOnlyAtTrailingUnderscoreWrongFalsely : Prop := fnMCPToolCollidesOnlyAtTrailingUnderscoreRow.holds Try.pinned (OpenSpec.ofChange fnMCPToolCollidesOnlyAtTrailingUnderscoreWrong)

/-- 'zzlaws_pkg_engine_b1.FnWriteUnescapedCutAndModel': WHATEVER THE INPUT: true; the input reads as it did. -/
def fnWriteUnescapedCutAndModelSpec : ChangeSpec := { name := "fnWriteUnescapedCutAndModel", fn := fun _ => fun
  | [d1, d2, d3, d4, d5, d6] => { results := [.lit (.bool true)], args := [d1, d2, d3, d4, d5, d6] }
  | _ => none }
def fnWriteUnescapedCutAndModelRow : OpenClaim := { program := "qxb6613957a", sum := "d1e53ccff17488f9fd63b13e385771230eefcb9edd724d4dfba02085a82abb15", func := "example.com/portcullis/portcullis/zzlaws_pkg_engine_b1.FnWriteUnescapedCutAndModel", spec := "fnWriteUnescapedCutAndModel", inPlace := ["internal/bytealg.IndexByteString"], apart := false }
def FnWriteUnescapedCutAndModelSaid : Prop := fnWriteUnescapedCutAndModelRow.holds Try.pinned (OpenSpec.ofChange fnWriteUnescapedCutAndModelSpec)

/-- ITS FALSE NEIGHBOUR: 'it returns false'. Refute it at one input. -/
def fnWriteUnescapedCutAndModelWrong : ChangeSpec := { name := "fnWriteUnescapedCutAndModel", fn := fun _ => fun
  | [d1, d2, d3, d4, d5, d6] => { results := [.lit (.bool false)], args := [d1, d2, d3, d4, d5, d6] }
  | _ => none }
def FnWriteUnescapedCutAndModelWrongFalsely : Prop := fnWriteUnescapedCutAndModelRow.holds Try.pinned (OpenSpec.ofChange fnWriteUnescapedCutAndModelWrong)

/-- 'zzlaws_pkg_engine_b1.FnWriteUnescapedReadsBackThroughEnd': WHATEVER THE INPUT: true; the input reads as it did. -/
def fnWriteUnescapedReadsBackThroughEndSpec : ChangeSpec := { name := "fnWriteUnescapedReadsBackThroughEnd", fn := fun _ => fun
  | [d1, d2, d3] => { results := [.lit (.bool true)], args := [d1, d2, d3] }
  | _ => none }
def fnWriteUnescapedReadsBackThroughEndRow : OpenClaim := { program := "qxb6613957a", sum := "d1e53ccff17488f9fd63b13e385771230eefcb9edd724d4dfba02085a82abb15", func := "example.com/portcullis/portcullis/zzlaws_pkg_engine_b1.FnWriteUnescapedReadsBackThroughEnd", spec := "fnWriteUnescapedReadsBackThroughEnd", inPlace := ["internal/bytealg.IndexByteString", "internal/abi.NoEscape"], apart := false }
def FnWriteUnescapedReadsBackThroughEndSaid : Prop := fnWriteUnescapedReadsBackThroughEndRow.holds Try.pinned (OpenSpec.ofChange fnWriteUnescapedReadsBackThroughEndSpec)

/-- ITS FALSE NEIGHBOUR: 'it returns false'. Refute it at one input. -/
def fnWriteUnescapedReadsBackThroughEndWrong : ChangeSpec := { name := "fnWriteUnescapedReadsBackThroughEnd", fn := fun _ => fun
  | [d1, d2, d3] => { results := [.lit (.bool false)], args := [d1, d2, d3] }
  | _ => none }
def FnWriteUnescapedReadsBackThroughEndWrongFalsely : Prop := fnWriteUnescapedReadsBackThroughEndRow.holds Try.pinned (OpenSpec.ofChange fnWriteUnescapedReadsBackThroughEndWrong)

end Rows
end Go.Proofs.Qxb6613957a
