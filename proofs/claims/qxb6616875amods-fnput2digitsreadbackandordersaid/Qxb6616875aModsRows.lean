/-
  No cell of these rows narrows 'for every input' (looked for: loops, veiled, ifaces, maps, wideKeys, modest, calm, conditions, laid).
  DERIVED. THE GIVEN ROWS OF THIS SEAT. 3 by the template 'for every input the law returns true; each argument reads behind the call as it read before'; 0 by the template 'total and deterministic' (their statements: Qxb6616875aModsTotals.lean).
  GIVEN WITH THE SEED: the statements are not yours to turn. If you find one false, say at which input.
  Laid BY PROGRAM, IN A SANDBOX (cutbox-rows.mjs): the forced cells as the released guide's own fill.sh prints them over the translation 272fe415c9f28cbf… (all of the seat's roots in one cut). By AI agents, Wed Nov 11 2026. No macro, syntax, notation, axiom, sorry.
-/
import Derived.Test.Qxb6616875aModsChecked
import GoSem.Claim
import GoSem.ClaimJoined
import GoSem.ClaimMapViews
import Derived.JoinedTies
import Derived.KernelRfl
namespace Go.Proofs.Qxb6616875aMods
/- THE CELL 'sum', in the pinned program and in every row, IS THE sha256 OF THE DUMP (.gsa) THAT Qxb6616875aModsProg.lean LOADS. Nothing in Lean hashes anything: it is a label: what it is worth is what the hold of that sum in a sandbox is worth. -/
noncomputable def Trym.pinned : Pinned := { name := "qxb6616875amods", sum := "272fe415c9f28cbf0a5feeaca02d4dd5b94f8d96f5a7376ff8430857b0f28dd1", checked := Trym.checked }
namespace Rows
def none {H : Type} : Left H := { results := [], args := [] }

/-- 'zzlaws_root_b1.FnPut2DigitsReadBackAndOrder': WHATEVER THE INPUT: true; the input reads as it did. -/
def fnPut2DigitsReadBackAndOrderSpec : ChangeSpec := { name := "fnPut2DigitsReadBackAndOrder", fn := fun _ => fun
  | [d1, d2, d3] => { results := [.lit (.bool true)], args := [d1, d2, d3] }
  | _ => none }
def fnPut2DigitsReadBackAndOrderRow : OpenClaim := { program := "qxb6616875amods", sum := "272fe415c9f28cbf0a5feeaca02d4dd5b94f8d96f5a7376ff8430857b0f28dd1", func := "example.com/monotick/monotick/zzlaws_root_b1.FnPut2DigitsReadBackAndOrder", spec := "fnPut2DigitsReadBackAndOrder", make := .lifted ["publicsums"], apart := false }
def FnPut2DigitsReadBackAndOrderSaid : Prop := fnPut2DigitsReadBackAndOrderRow.holds Trym.pinned (OpenSpec.ofChange fnPut2DigitsReadBackAndOrderSpec)

/-- ITS FALSE NEIGHBOUR: 'it returns false'. Refute it at one input. -/
def fnPut2DigitsReadBackAndOrderWrong : ChangeSpec := { name := "fnPut2DigitsReadBackAndOrder", fn := fun _ => fun
  | [d1, d2, d3] => { results := [.lit (.bool false)], args := [d1, d2, d3] }
  | _ => none }
def FnPut2DigitsReadBackAndOrderWrongFalsely : Prop := fnPut2DigitsReadBackAndOrderRow.holds Trym.pinned (OpenSpec.ofChange fnPut2DigitsReadBackAndOrderWrong)

/-- 'zzlaws_root_b1.FnPut2PairSpellsFourDigits': WHATEVER THE INPUT: true; the input reads as it did. -/
def fnPut2PairSpellsFourDigitsSpec : ChangeSpec := { name := "fnPut2PairSpellsFourDigits", fn := fun _ => fun
  | [d1, d2] => { results := [.lit (.bool true)], args := [d1, d2] }
  | _ => none }
def fnPut2PairSpellsFourDigitsRow : OpenClaim := { program := "qxb6616875amods", sum := "272fe415c9f28cbf0a5feeaca02d4dd5b94f8d96f5a7376ff8430857b0f28dd1", func := "example.com/monotick/monotick/zzlaws_root_b1.FnPut2PairSpellsFourDigits", spec := "fnPut2PairSpellsFourDigits", make := .lifted ["publicsums"], apart := false }
def FnPut2PairSpellsFourDigitsSaid : Prop := fnPut2PairSpellsFourDigitsRow.holds Trym.pinned (OpenSpec.ofChange fnPut2PairSpellsFourDigitsSpec)

/-- ITS FALSE NEIGHBOUR: 'it returns false'. Refute it at one input. -/
def fnPut2PairSpellsFourDigitsWrong : ChangeSpec := { name := "fnPut2PairSpellsFourDigits", fn := fun _ => fun
  | [d1, d2] => { results := [.lit (.bool false)], args := [d1, d2] }
  | _ => none }
def FnPut2PairSpellsFourDigitsWrongFalsely : Prop := fnPut2PairSpellsFourDigitsRow.holds Trym.pinned (OpenSpec.ofChange fnPut2PairSpellsFourDigitsWrong)

/-- 'zzlaws_root_b1.FnStampMarshalInjective': WHATEVER THE INPUT: true; the input reads as it did. -/
def fnStampMarshalInjectiveSpec : ChangeSpec := { name := "fnStampMarshalInjective", fn := fun _ => fun
  | [d1, d2, d3, d4] => { results := [.lit (.bool true)], args := [d1, d2, d3, d4] }
  | _ => none }
def fnStampMarshalInjectiveRow : OpenClaim := { program := "qxb6616875amods", sum := "272fe415c9f28cbf0a5feeaca02d4dd5b94f8d96f5a7376ff8430857b0f28dd1", func := "example.com/monotick/monotick/zzlaws_root_b1.FnStampMarshalInjective", spec := "fnStampMarshalInjective", named := ["encoding/binary.LittleEndian"], make := .lifted ["publicsums"], apart := false }
def FnStampMarshalInjectiveSaid : Prop := fnStampMarshalInjectiveRow.holds Trym.pinned (OpenSpec.ofChange fnStampMarshalInjectiveSpec)

/-- ITS FALSE NEIGHBOUR: 'it returns false'. Refute it at one input. -/
def fnStampMarshalInjectiveWrong : ChangeSpec := { name := "fnStampMarshalInjective", fn := fun _ => fun
  | [d1, d2, d3, d4] => { results := [.lit (.bool false)], args := [d1, d2, d3, d4] }
  | _ => none }
def FnStampMarshalInjectiveWrongFalsely : Prop := fnStampMarshalInjectiveRow.holds Trym.pinned (OpenSpec.ofChange fnStampMarshalInjectiveWrong)

end Rows
end Go.Proofs.Qxb6616875aMods
