/-
  No cell of these rows narrows 'for every input' (looked for: loops, veiled, ifaces, maps, wideKeys, modest, calm, conditions, laid).
  DERIVED. THE GIVEN ROWS OF THIS SEAT. 2 by the template 'for every input the law returns true; each argument reads behind the call as it read before'; 0 by the template 'total and deterministic' (their statements: Qxb6612439aTotals.lean).
  GIVEN WITH THE SEED: the statements are not yours to turn. If you find one false, say at which input.
  Laid BY PROGRAM, IN A SANDBOX (cutbox-rows.mjs): the forced cells as the released guide's own fill.sh prints them over the translation afe836160f43a880… (all of the seat's roots in one cut). By AI agents, Wed Nov 11 2026. No macro, syntax, notation, axiom, sorry.
-/
import Derived.Test.Qxb6612439aChecked
import GoSem.Claim
import GoSem.ClaimJoined
import GoSem.ClaimMapViews
import Derived.JoinedTies
import Derived.KernelRfl
namespace Go.Proofs.Qxb6612439a
/- THE CELL 'sum', in the pinned program and in every row, IS THE sha256 OF THE DUMP (.gsa) THAT Qxb6612439aProg.lean LOADS. Nothing in Lean hashes anything: it is a label: what it is worth is what the hold of that sum in a sandbox is worth. -/
noncomputable def Try.pinned : Pinned := { name := "qxb6612439a", sum := "afe836160f43a8802ec1b9730929adbab7c25568e5e2c0acce39b4adc7799114", checked := Try.checked }
namespace Rows
def none {H : Type} : Left H := { results := [], args := [] }

/-- 'zzlaws_internal_engine_b1.FnJoinConfigurationsTakesEachLineFromItsOwnConfiguration': WHATEVER THE INPUT: true; the input reads as it did. -/
def fnJoinConfigurationsTakesEachLineFromItsOwnConfigurationSpec : ChangeSpec := { name := "fnJoinConfigurationsTakesEachLineFromItsOwnConfiguration", fn := fun _ => fun
  | [d1, d2] => { results := [.lit (.bool true)], args := [d1, d2] }
  | _ => none }
def fnJoinConfigurationsTakesEachLineFromItsOwnConfigurationRow : OpenClaim := { program := "qxb6612439a", sum := "afe836160f43a8802ec1b9730929adbab7c25568e5e2c0acce39b4adc7799114", func := "example.com/planwright/planwright/zzlaws_internal_engine_b1.FnJoinConfigurationsTakesEachLineFromItsOwnConfiguration", spec := "fnJoinConfigurationsTakesEachLineFromItsOwnConfiguration", inPlace := ["internal/bytealg.IndexByteString", "internal/bytealg.IndexString", "internal/bytealg.abigen_runtime_cmpstring", "internal/abi.NoEscape"], unfollowed := true, recurses := true, named := ["internal/bytealg.MaxLen"], apart := false }
def FnJoinConfigurationsTakesEachLineFromItsOwnConfigurationSaid : Prop := fnJoinConfigurationsTakesEachLineFromItsOwnConfigurationRow.holds Try.pinned (OpenSpec.ofChange fnJoinConfigurationsTakesEachLineFromItsOwnConfigurationSpec)

/-- ITS FALSE NEIGHBOUR: 'it returns false'. Refute it at one input. -/
def fnJoinConfigurationsTakesEachLineFromItsOwnConfigurationWrong : ChangeSpec := { name := "fnJoinConfigurationsTakesEachLineFromItsOwnConfiguration", fn := fun _ => fun
  | [d1, d2] => { results := [.lit (.bool false)], args := [d1, d2] }
  | _ => none }
def FnJoinConfigurationsTakesEachLineFromItsOwnConfigurationWrongFalsely : Prop := fnJoinConfigurationsTakesEachLineFromItsOwnConfigurationRow.holds Try.pinned (OpenSpec.ofChange fnJoinConfigurationsTakesEachLineFromItsOwnConfigurationWrong)

/-- 'zzlaws_internal_engine_b1.FnJoinConfigurationsGivesBackTheConfigurationItTakesAllFrom': WHATEVER THE INPUT: true; the input reads as it did. -/
def fnJoinConfigurationsGivesBackTheConfigurationItTakesAllFromSpec : ChangeSpec := { name := "fnJoinConfigurationsGivesBackTheConfigurationItTakesAllFrom", fn := fun _ => fun
  | [d1, d2] => { results := [.lit (.bool true)], args := [d1, d2] }
  | _ => none }
def fnJoinConfigurationsGivesBackTheConfigurationItTakesAllFromRow : OpenClaim := { program := "qxb6612439a", sum := "afe836160f43a8802ec1b9730929adbab7c25568e5e2c0acce39b4adc7799114", func := "example.com/planwright/planwright/zzlaws_internal_engine_b1.FnJoinConfigurationsGivesBackTheConfigurationItTakesAllFrom", spec := "fnJoinConfigurationsGivesBackTheConfigurationItTakesAllFrom", inPlace := ["internal/bytealg.IndexByteString", "internal/bytealg.IndexString", "internal/bytealg.abigen_runtime_cmpstring", "internal/abi.NoEscape"], unfollowed := true, recurses := true, named := ["internal/bytealg.MaxLen"], apart := false }
def FnJoinConfigurationsGivesBackTheConfigurationItTakesAllFromSaid : Prop := fnJoinConfigurationsGivesBackTheConfigurationItTakesAllFromRow.holds Try.pinned (OpenSpec.ofChange fnJoinConfigurationsGivesBackTheConfigurationItTakesAllFromSpec)

/-- ITS FALSE NEIGHBOUR: 'it returns false'. Refute it at one input. -/
def fnJoinConfigurationsGivesBackTheConfigurationItTakesAllFromWrong : ChangeSpec := { name := "fnJoinConfigurationsGivesBackTheConfigurationItTakesAllFrom", fn := fun _ => fun
  | [d1, d2] => { results := [.lit (.bool false)], args := [d1, d2] }
  | _ => none }
def FnJoinConfigurationsGivesBackTheConfigurationItTakesAllFromWrongFalsely : Prop := fnJoinConfigurationsGivesBackTheConfigurationItTakesAllFromRow.holds Try.pinned (OpenSpec.ofChange fnJoinConfigurationsGivesBackTheConfigurationItTakesAllFromWrong)

end Rows
end Go.Proofs.Qxb6612439a
