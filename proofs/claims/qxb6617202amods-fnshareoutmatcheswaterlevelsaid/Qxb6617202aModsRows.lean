/-
  No cell of these rows narrows 'for every input' (looked for: loops, veiled, ifaces, maps, wideKeys, modest, calm, conditions, laid).
  DERIVED. THE GIVEN ROWS OF THIS SEAT. 4 by the template 'for every input the law returns true; each argument reads behind the call as it read before'; 0 by the template 'total and deterministic' (their statements: Qxb6617202aModsTotals.lean).
  GIVEN WITH THE SEED: the statements are not yours to turn. If you find one false, say at which input.
  Laid BY PROGRAM, IN A SANDBOX (cutbox-rows.mjs): the forced cells as the released guide's own fill.sh prints them over the translation 2074629dbe86d2eb… (all of the seat's roots in one cut). By AI agents, Wed Nov 11 2026. No macro, syntax, notation, axiom, sorry.
-/
import Derived.Test.Qxb6617202aModsChecked
import GoSem.Claim
import GoSem.ClaimJoined
import GoSem.ClaimMapViews
import Derived.JoinedTies
import Derived.KernelRfl
namespace Go.Proofs.Qxb6617202aMods
/- THE CELL 'sum', in the pinned program and in every row, IS THE sha256 OF THE DUMP (.gsa) THAT Qxb6617202aModsProg.lean LOADS. Nothing in Lean hashes anything: it is a label: what it is worth is what the hold of that sum in a sandbox is worth. -/
noncomputable def Trym.pinned : Pinned := { name := "qxb6617202amods", sum := "2074629dbe86d2eb0e9a4a2e938dc3915f5858b1035a6f8bc0751ce706e8c0a0", checked := Trym.checked }
namespace Rows
def none {H : Type} : Left H := { results := [], args := [] }

/-- 'zzlaws_internal_driver_b1.FnShareOutMatchesWaterLevel': WHATEVER THE INPUT: true; the input reads as it did. -/
def fnShareOutMatchesWaterLevelSpec : ChangeSpec := { name := "fnShareOutMatchesWaterLevel", fn := fun _ => fun
  | [d1, d2] => { results := [.lit (.bool true)], args := [d1, d2] }
  | _ => none }
def fnShareOutMatchesWaterLevelRow : OpenClaim := { program := "qxb6617202amods", sum := "2074629dbe86d2eb0e9a4a2e938dc3915f5858b1035a6f8bc0751ce706e8c0a0", func := "example.com/shardwright/shardwright/zzlaws_internal_driver_b1.FnShareOutMatchesWaterLevel", spec := "fnShareOutMatchesWaterLevel", make := .lifted ["publicsums"], apart := false }
def FnShareOutMatchesWaterLevelSaid : Prop := fnShareOutMatchesWaterLevelRow.holds Trym.pinned (OpenSpec.ofChange fnShareOutMatchesWaterLevelSpec)

/-- ITS FALSE NEIGHBOUR: 'it returns false'. Refute it at one input. -/
def fnShareOutMatchesWaterLevelWrong : ChangeSpec := { name := "fnShareOutMatchesWaterLevel", fn := fun _ => fun
  | [d1, d2] => { results := [.lit (.bool false)], args := [d1, d2] }
  | _ => none }
def FnShareOutMatchesWaterLevelWrongFalsely : Prop := fnShareOutMatchesWaterLevelRow.holds Trym.pinned (OpenSpec.ofChange fnShareOutMatchesWaterLevelWrong)

/-- 'zzlaws_internal_driver_b1.FnTroubledIsFirstTroubleFlagElseConnection': WHATEVER THE INPUT: true; the input reads as it did. -/
def fnTroubledIsFirstTroubleFlagElseConnectionSpec : ChangeSpec := { name := "fnTroubledIsFirstTroubleFlagElseConnection", fn := fun _ => fun
  | [d1, d2, d3, d4, d5, d6, d7, d8, d9, d10] => { results := [.lit (.bool true)], args := [d1, d2, d3, d4, d5, d6, d7, d8, d9, d10] }
  | _ => none }
def fnTroubledIsFirstTroubleFlagElseConnectionRow : OpenClaim := { program := "qxb6617202amods", sum := "2074629dbe86d2eb0e9a4a2e938dc3915f5858b1035a6f8bc0751ce706e8c0a0", func := "example.com/shardwright/shardwright/zzlaws_internal_driver_b1.FnTroubledIsFirstTroubleFlagElseConnection", spec := "fnTroubledIsFirstTroubleFlagElseConnection", make := .lifted ["publicsums"], apart := false }
def FnTroubledIsFirstTroubleFlagElseConnectionSaid : Prop := fnTroubledIsFirstTroubleFlagElseConnectionRow.holds Trym.pinned (OpenSpec.ofChange fnTroubledIsFirstTroubleFlagElseConnectionSpec)

/-- ITS FALSE NEIGHBOUR: 'it returns false'. Refute it at one input. -/
def fnTroubledIsFirstTroubleFlagElseConnectionWrong : ChangeSpec := { name := "fnTroubledIsFirstTroubleFlagElseConnection", fn := fun _ => fun
  | [d1, d2, d3, d4, d5, d6, d7, d8, d9, d10] => { results := [.lit (.bool false)], args := [d1, d2, d3, d4, d5, d6, d7, d8, d9, d10] }
  | _ => none }
def FnTroubledIsFirstTroubleFlagElseConnectionWrongFalsely : Prop := fnTroubledIsFirstTroubleFlagElseConnectionRow.holds Trym.pinned (OpenSpec.ofChange fnTroubledIsFirstTroubleFlagElseConnectionWrong)

/-- 'zzlaws_internal_driver_b1.FnTroubledAtAnyCutOfFlags': WHATEVER THE INPUT: true; the input reads as it did. -/
def fnTroubledAtAnyCutOfFlagsSpec : ChangeSpec := { name := "fnTroubledAtAnyCutOfFlags", fn := fun _ => fun
  | [d1, d2, d3, d4, d5, d6, d7, d8, d9, d10, d11] => { results := [.lit (.bool true)], args := [d1, d2, d3, d4, d5, d6, d7, d8, d9, d10, d11] }
  | _ => none }
def fnTroubledAtAnyCutOfFlagsRow : OpenClaim := { program := "qxb6617202amods", sum := "2074629dbe86d2eb0e9a4a2e938dc3915f5858b1035a6f8bc0751ce706e8c0a0", func := "example.com/shardwright/shardwright/zzlaws_internal_driver_b1.FnTroubledAtAnyCutOfFlags", spec := "fnTroubledAtAnyCutOfFlags", make := .lifted ["publicsums"], apart := false }
def FnTroubledAtAnyCutOfFlagsSaid : Prop := fnTroubledAtAnyCutOfFlagsRow.holds Trym.pinned (OpenSpec.ofChange fnTroubledAtAnyCutOfFlagsSpec)

/-- ITS FALSE NEIGHBOUR: 'it returns false'. Refute it at one input. -/
def fnTroubledAtAnyCutOfFlagsWrong : ChangeSpec := { name := "fnTroubledAtAnyCutOfFlags", fn := fun _ => fun
  | [d1, d2, d3, d4, d5, d6, d7, d8, d9, d10, d11] => { results := [.lit (.bool false)], args := [d1, d2, d3, d4, d5, d6, d7, d8, d9, d10, d11] }
  | _ => none }
def FnTroubledAtAnyCutOfFlagsWrongFalsely : Prop := fnTroubledAtAnyCutOfFlagsRow.holds Trym.pinned (OpenSpec.ofChange fnTroubledAtAnyCutOfFlagsWrong)

/-- 'zzlaws_internal_driver_b1.FnShareOutGrowsByOneFairlyAndSettles': WHATEVER THE INPUT: true; the input reads as it did. -/
def fnShareOutGrowsByOneFairlyAndSettlesSpec : ChangeSpec := { name := "fnShareOutGrowsByOneFairlyAndSettles", fn := fun _ => fun
  | [d1, d2] => { results := [.lit (.bool true)], args := [d1, d2] }
  | _ => none }
def fnShareOutGrowsByOneFairlyAndSettlesRow : OpenClaim := { program := "qxb6617202amods", sum := "2074629dbe86d2eb0e9a4a2e938dc3915f5858b1035a6f8bc0751ce706e8c0a0", func := "example.com/shardwright/shardwright/zzlaws_internal_driver_b1.FnShareOutGrowsByOneFairlyAndSettles", spec := "fnShareOutGrowsByOneFairlyAndSettles", make := .lifted ["publicsums"], apart := false }
def FnShareOutGrowsByOneFairlyAndSettlesSaid : Prop := fnShareOutGrowsByOneFairlyAndSettlesRow.holds Trym.pinned (OpenSpec.ofChange fnShareOutGrowsByOneFairlyAndSettlesSpec)

/-- ITS FALSE NEIGHBOUR: 'it returns false'. Refute it at one input. -/
def fnShareOutGrowsByOneFairlyAndSettlesWrong : ChangeSpec := { name := "fnShareOutGrowsByOneFairlyAndSettles", fn := fun _ => fun
  | [d1, d2] => { results := [.lit (.bool false)], args := [d1, d2] }
  | _ => none }
def FnShareOutGrowsByOneFairlyAndSettlesWrongFalsely : Prop := fnShareOutGrowsByOneFairlyAndSettlesRow.holds Trym.pinned (OpenSpec.ofChange fnShareOutGrowsByOneFairlyAndSettlesWrong)

end Rows
end Go.Proofs.Qxb6617202aMods
