/-
  No cell of these rows narrows 'for every input' (looked for: loops, veiled, ifaces, maps, wideKeys, modest, calm, conditions, laid).
  DERIVED. THE GIVEN ROWS OF THIS SEAT. 6 by the template 'for every input the law returns true; each argument reads behind the call as it read before'; 0 by the template 'total and deterministic' (their statements: Qxb6603439aTotals.lean).
  GIVEN WITH THE SEED: the statements are not yours to turn. If you find one false, say at which input.
  Laid BY PROGRAM, IN A SANDBOX (cutbox-rows.mjs): the forced cells as the released guide's own fill.sh prints them over the translation 42e805957bd4807e… (all of the seat's roots in one cut). By AI agents, Wed Nov 11 2026. No macro, syntax, notation, axiom, sorry.
-/
import Derived.Test.Qxb6603439aChecked
import GoSem.Claim
import GoSem.ClaimJoined
import GoSem.ClaimMapViews
import Derived.JoinedTies
import Derived.KernelRfl
namespace Go.Proofs.Qxb6603439a
/- THE CELL 'sum', in the pinned program and in every row, IS THE sha256 OF THE DUMP (.gsa) THAT Qxb6603439aProg.lean LOADS. Nothing in Lean hashes anything: it is a label: what it is worth is what the hold of that sum in a sandbox is worth. -/
noncomputable def Try.pinned : Pinned := { name := "qxb6603439a", sum := "42e805957bd4807e1ad3c6b258c0b1064aa52d0b4e96c4316240ae2a904bade8", checked := Try.checked }
namespace Rows
def none {H : Type} : Left H := { results := [], args := [] }

/-- 'zzlaws_settings_b1.FnUnescapeMatchesModel': WHATEVER THE INPUT: true; the input reads as it did. -/
def fnUnescapeMatchesModelSpec : ChangeSpec := { name := "fnUnescapeMatchesModel", fn := fun _ => fun
  | [d1, d2] => { results := [.lit (.bool true)], args := [d1, d2] }
  | _ => none }
def fnUnescapeMatchesModelRow : OpenClaim := { program := "qxb6603439a", sum := "42e805957bd4807e1ad3c6b258c0b1064aa52d0b4e96c4316240ae2a904bade8", func := "example.com/underframe/underframe/zzlaws_settings_b1.FnUnescapeMatchesModel", spec := "fnUnescapeMatchesModel", inPlace := ["internal/bytealg.IndexByteString", "internal/bytealg.IndexString", "internal/abi.NoEscape"], named := ["internal/bytealg.MaxLen"], apart := false }
def FnUnescapeMatchesModelSaid : Prop := fnUnescapeMatchesModelRow.holds Try.pinned (OpenSpec.ofChange fnUnescapeMatchesModelSpec)

/-- ITS FALSE NEIGHBOUR: 'it returns false'. Refute it at one input. -/
def fnUnescapeMatchesModelWrong : ChangeSpec := { name := "fnUnescapeMatchesModel", fn := fun _ => fun
  | [d1, d2] => { results := [.lit (.bool false)], args := [d1, d2] }
  | _ => none }
def FnUnescapeMatchesModelWrongFalsely : Prop := fnUnescapeMatchesModelRow.holds Try.pinned (OpenSpec.ofChange fnUnescapeMatchesModelWrong)

/-- 'zzlaws_settings_b1.FnUnescapeInvertsEscape': WHATEVER THE INPUT: true; the input reads as it did. -/
def fnUnescapeInvertsEscapeSpec : ChangeSpec := { name := "fnUnescapeInvertsEscape", fn := fun _ => fun
  | [d1, d2] => { results := [.lit (.bool true)], args := [d1, d2] }
  | _ => none }
def fnUnescapeInvertsEscapeRow : OpenClaim := { program := "qxb6603439a", sum := "42e805957bd4807e1ad3c6b258c0b1064aa52d0b4e96c4316240ae2a904bade8", func := "example.com/underframe/underframe/zzlaws_settings_b1.FnUnescapeInvertsEscape", spec := "fnUnescapeInvertsEscape", inPlace := ["internal/bytealg.IndexByteString", "internal/bytealg.IndexString", "internal/abi.NoEscape"], named := ["internal/bytealg.MaxLen"], apart := false }
def FnUnescapeInvertsEscapeSaid : Prop := fnUnescapeInvertsEscapeRow.holds Try.pinned (OpenSpec.ofChange fnUnescapeInvertsEscapeSpec)

/-- ITS FALSE NEIGHBOUR: 'it returns false'. Refute it at one input. -/
def fnUnescapeInvertsEscapeWrong : ChangeSpec := { name := "fnUnescapeInvertsEscape", fn := fun _ => fun
  | [d1, d2] => { results := [.lit (.bool false)], args := [d1, d2] }
  | _ => none }
def FnUnescapeInvertsEscapeWrongFalsely : Prop := fnUnescapeInvertsEscapeRow.holds Try.pinned (OpenSpec.ofChange fnUnescapeInvertsEscapeWrong)

/-- 'zzlaws_settings_b1.FnUnescapeLeavesPairlessBodyAlone': WHATEVER THE INPUT: true; the input reads as it did. -/
def fnUnescapeLeavesPairlessBodyAloneSpec : ChangeSpec := { name := "fnUnescapeLeavesPairlessBodyAlone", fn := fun _ => fun
  | [d1, d2] => { results := [.lit (.bool true)], args := [d1, d2] }
  | _ => none }
def fnUnescapeLeavesPairlessBodyAloneRow : OpenClaim := { program := "qxb6603439a", sum := "42e805957bd4807e1ad3c6b258c0b1064aa52d0b4e96c4316240ae2a904bade8", func := "example.com/underframe/underframe/zzlaws_settings_b1.FnUnescapeLeavesPairlessBodyAlone", spec := "fnUnescapeLeavesPairlessBodyAlone", inPlace := ["internal/bytealg.IndexByteString", "internal/bytealg.IndexString", "internal/abi.NoEscape"], named := ["internal/bytealg.MaxLen"], apart := false }
def FnUnescapeLeavesPairlessBodyAloneSaid : Prop := fnUnescapeLeavesPairlessBodyAloneRow.holds Try.pinned (OpenSpec.ofChange fnUnescapeLeavesPairlessBodyAloneSpec)

/-- ITS FALSE NEIGHBOUR: 'it returns false'. Refute it at one input. -/
def fnUnescapeLeavesPairlessBodyAloneWrong : ChangeSpec := { name := "fnUnescapeLeavesPairlessBodyAlone", fn := fun _ => fun
  | [d1, d2] => { results := [.lit (.bool false)], args := [d1, d2] }
  | _ => none }
def FnUnescapeLeavesPairlessBodyAloneWrongFalsely : Prop := fnUnescapeLeavesPairlessBodyAloneRow.holds Try.pinned (OpenSpec.ofChange fnUnescapeLeavesPairlessBodyAloneWrong)

/-- 'zzlaws_settings_b1.FnReferenceClosedForm': WHATEVER THE INPUT: true; the input reads as it did. -/
def fnReferenceClosedFormSpec : ChangeSpec := { name := "fnReferenceClosedForm", fn := fun _ => fun
  | [d] => { results := [.lit (.bool true)], args := [d] }
  | _ => none }
def fnReferenceClosedFormRow : OpenClaim := { program := "qxb6603439a", sum := "42e805957bd4807e1ad3c6b258c0b1064aa52d0b4e96c4316240ae2a904bade8", func := "example.com/underframe/underframe/zzlaws_settings_b1.FnReferenceClosedForm", spec := "fnReferenceClosedForm", inPlace := ["internal/bytealg.IndexByteString", "internal/bytealg.IndexString"], named := ["internal/bytealg.MaxLen"], apart := false }
def FnReferenceClosedFormSaid : Prop := fnReferenceClosedFormRow.holds Try.pinned (OpenSpec.ofChange fnReferenceClosedFormSpec)

/-- ITS FALSE NEIGHBOUR: 'it returns false'. Refute it at one input. -/
def fnReferenceClosedFormWrong : ChangeSpec := { name := "fnReferenceClosedForm", fn := fun _ => fun
  | [d] => { results := [.lit (.bool false)], args := [d] }
  | _ => none }
def FnReferenceClosedFormWrongFalsely : Prop := fnReferenceClosedFormRow.holds Try.pinned (OpenSpec.ofChange fnReferenceClosedFormWrong)

/-- 'zzlaws_settings_b1.FnReferenceReadsBackWhatWasWritten': WHATEVER THE INPUT: true; the input reads as it did. -/
def fnReferenceReadsBackWhatWasWrittenSpec : ChangeSpec := { name := "fnReferenceReadsBackWhatWasWritten", fn := fun _ => fun
  | [d1, d2, d3, d4] => { results := [.lit (.bool true)], args := [d1, d2, d3, d4] }
  | _ => none }
def fnReferenceReadsBackWhatWasWrittenRow : OpenClaim := { program := "qxb6603439a", sum := "42e805957bd4807e1ad3c6b258c0b1064aa52d0b4e96c4316240ae2a904bade8", func := "example.com/underframe/underframe/zzlaws_settings_b1.FnReferenceReadsBackWhatWasWritten", spec := "fnReferenceReadsBackWhatWasWritten", inPlace := ["internal/bytealg.IndexByteString", "internal/bytealg.IndexString"], named := ["internal/bytealg.MaxLen"], apart := false }
def FnReferenceReadsBackWhatWasWrittenSaid : Prop := fnReferenceReadsBackWhatWasWrittenRow.holds Try.pinned (OpenSpec.ofChange fnReferenceReadsBackWhatWasWrittenSpec)

/-- ITS FALSE NEIGHBOUR: 'it returns false'. Refute it at one input. -/
def fnReferenceReadsBackWhatWasWrittenWrong : ChangeSpec := { name := "fnReferenceReadsBackWhatWasWritten", fn := fun _ => fun
  | [d1, d2, d3, d4] => { results := [.lit (.bool false)], args := [d1, d2, d3, d4] }
  | _ => none }
def FnReferenceReadsBackWhatWasWrittenWrongFalsely : Prop := fnReferenceReadsBackWhatWasWrittenRow.holds Try.pinned (OpenSpec.ofChange fnReferenceReadsBackWhatWasWrittenWrong)

/-- 'zzlaws_settings_b1.FnReferenceReadsOnlyItsPrefix': WHATEVER THE INPUT: true; the input reads as it did. -/
def fnReferenceReadsOnlyItsPrefixSpec : ChangeSpec := { name := "fnReferenceReadsOnlyItsPrefix", fn := fun _ => fun
  | [d1, d2] => { results := [.lit (.bool true)], args := [d1, d2] }
  | _ => none }
def fnReferenceReadsOnlyItsPrefixRow : OpenClaim := { program := "qxb6603439a", sum := "42e805957bd4807e1ad3c6b258c0b1064aa52d0b4e96c4316240ae2a904bade8", func := "example.com/underframe/underframe/zzlaws_settings_b1.FnReferenceReadsOnlyItsPrefix", spec := "fnReferenceReadsOnlyItsPrefix", inPlace := ["internal/bytealg.IndexByteString", "internal/bytealg.IndexString"], named := ["internal/bytealg.MaxLen"], apart := false }
def FnReferenceReadsOnlyItsPrefixSaid : Prop := fnReferenceReadsOnlyItsPrefixRow.holds Try.pinned (OpenSpec.ofChange fnReferenceReadsOnlyItsPrefixSpec)

/-- ITS FALSE NEIGHBOUR: 'it returns false'. Refute it at one input. -/
def fnReferenceReadsOnlyItsPrefixWrong : ChangeSpec := { name := "fnReferenceReadsOnlyItsPrefix", fn := fun _ => fun
  | [d1, d2] => { results := [.lit (.bool false)], args := [d1, d2] }
  | _ => none }
def FnReferenceReadsOnlyItsPrefixWrongFalsely : Prop := fnReferenceReadsOnlyItsPrefixRow.holds Try.pinned (OpenSpec.ofChange fnReferenceReadsOnlyItsPrefixWrong)

end Rows
end Go.Proofs.Qxb6603439a
