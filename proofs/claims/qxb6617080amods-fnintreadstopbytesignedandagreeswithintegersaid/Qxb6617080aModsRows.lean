/-
  No cell of these rows narrows 'for every input' (looked for: loops, veiled, ifaces, maps, wideKeys, modest, calm, conditions, laid).
  DERIVED. THE GIVEN ROWS OF THIS SEAT. 2 by the template 'for every input the law returns true; each argument reads behind the call as it read before'; 0 by the template 'total and deterministic' (their statements: Qxb6617080aModsTotals.lean).
  GIVEN WITH THE SEED: the statements are not yours to turn. If you find one false, say at which input.
  Laid BY PROGRAM, IN A SANDBOX (cutbox-rows.mjs): the forced cells as the released guide's own fill.sh prints them over the translation 1a52f36b302e127c… (all of the seat's roots in one cut). By AI agents, Wed Nov 11 2026. No macro, syntax, notation, axiom, sorry.
-/
import Derived.Test.Qxb6617080aModsChecked
import GoSem.Claim
import GoSem.ClaimJoined
import GoSem.ClaimMapViews
import Derived.JoinedTies
import Derived.KernelRfl
namespace Go.Proofs.Qxb6617080aMods
/- THE CELL 'sum', in the pinned program and in every row, IS THE sha256 OF THE DUMP (.gsa) THAT Qxb6617080aModsProg.lean LOADS. Nothing in Lean hashes anything: it is a label: what it is worth is what the hold of that sum in a sandbox is worth. -/
noncomputable def Trym.pinned : Pinned := { name := "qxb6617080amods", sum := "1a52f36b302e127cf73355211ee63f8fe770f6e33c67822836ac18c95cbd0957", checked := Trym.checked }
namespace Rows
def none {H : Type} : Left H := { results := [], args := [] }

/-- 'zzlaws_internal_binlog_b1.FnIntReadsTopByteSignedAndAgreesWithInteger': WHATEVER THE INPUT: true; the input reads as it did. -/
def fnIntReadsTopByteSignedAndAgreesWithIntegerSpec : ChangeSpec := { name := "fnIntReadsTopByteSignedAndAgreesWithInteger", fn := fun _ => fun
  | [d1, d2, d3, d4] => { results := [.lit (.bool true)], args := [d1, d2, d3, d4] }
  | _ => none }
def fnIntReadsTopByteSignedAndAgreesWithIntegerRow : OpenClaim := { program := "qxb6617080amods", sum := "1a52f36b302e127cf73355211ee63f8fe770f6e33c67822836ac18c95cbd0957", func := "example.com/riverwake/riverwake/zzlaws_internal_binlog_b1.FnIntReadsTopByteSignedAndAgreesWithInteger", spec := "fnIntReadsTopByteSignedAndAgreesWithInteger", make := .lifted ["publicsums"], apart := false }
def FnIntReadsTopByteSignedAndAgreesWithIntegerSaid : Prop := fnIntReadsTopByteSignedAndAgreesWithIntegerRow.holds Trym.pinned (OpenSpec.ofChange fnIntReadsTopByteSignedAndAgreesWithIntegerSpec)

/-- ITS FALSE NEIGHBOUR: 'it returns false'. Refute it at one input. -/
def fnIntReadsTopByteSignedAndAgreesWithIntegerWrong : ChangeSpec := { name := "fnIntReadsTopByteSignedAndAgreesWithInteger", fn := fun _ => fun
  | [d1, d2, d3, d4] => { results := [.lit (.bool false)], args := [d1, d2, d3, d4] }
  | _ => none }
def FnIntReadsTopByteSignedAndAgreesWithIntegerWrongFalsely : Prop := fnIntReadsTopByteSignedAndAgreesWithIntegerRow.holds Trym.pinned (OpenSpec.ofChange fnIntReadsTopByteSignedAndAgreesWithIntegerWrong)

/-- 'zzlaws_internal_binlog_b1.FnIntTopBitFlipMovesByHalfRange': WHATEVER THE INPUT: true; the input reads as it did. -/
def fnIntTopBitFlipMovesByHalfRangeSpec : ChangeSpec := { name := "fnIntTopBitFlipMovesByHalfRange", fn := fun _ => fun
  | [d1, d2, d3, d4] => { results := [.lit (.bool true)], args := [d1, d2, d3, d4] }
  | _ => none }
def fnIntTopBitFlipMovesByHalfRangeRow : OpenClaim := { program := "qxb6617080amods", sum := "1a52f36b302e127cf73355211ee63f8fe770f6e33c67822836ac18c95cbd0957", func := "example.com/riverwake/riverwake/zzlaws_internal_binlog_b1.FnIntTopBitFlipMovesByHalfRange", spec := "fnIntTopBitFlipMovesByHalfRange", make := .lifted ["publicsums"], apart := false }
def FnIntTopBitFlipMovesByHalfRangeSaid : Prop := fnIntTopBitFlipMovesByHalfRangeRow.holds Trym.pinned (OpenSpec.ofChange fnIntTopBitFlipMovesByHalfRangeSpec)

/-- ITS FALSE NEIGHBOUR: 'it returns false'. Refute it at one input. -/
def fnIntTopBitFlipMovesByHalfRangeWrong : ChangeSpec := { name := "fnIntTopBitFlipMovesByHalfRange", fn := fun _ => fun
  | [d1, d2, d3, d4] => { results := [.lit (.bool false)], args := [d1, d2, d3, d4] }
  | _ => none }
def FnIntTopBitFlipMovesByHalfRangeWrongFalsely : Prop := fnIntTopBitFlipMovesByHalfRangeRow.holds Trym.pinned (OpenSpec.ofChange fnIntTopBitFlipMovesByHalfRangeWrong)

end Rows
end Go.Proofs.Qxb6617080aMods
