/-
  No cell of these rows narrows 'for every input' (looked for: loops, veiled, ifaces, maps, wideKeys, modest, calm, conditions, laid).
  DERIVED. THE GIVEN ROWS OF THIS SEAT. 4 by the template 'for every input the law returns true; each argument reads behind the call as it read before'; 0 by the template 'total and deterministic' (their statements: Qxb6603950aTotals.lean).
  GIVEN WITH THE SEED: the statements are not yours to turn. If you find one false, say at which input.
  Laid BY PROGRAM, IN A SANDBOX (cutbox-rows.mjs): the forced cells as the released guide's own fill.sh prints them over the translation ca0a9fc6c023d54e… (all of the seat's roots in one cut). By AI agents, Wed Nov 11 2026. No macro, syntax, notation, axiom, sorry.
-/
import Derived.Test.Qxb6603950aChecked
import GoSem.Claim
import GoSem.ClaimJoined
import GoSem.ClaimMapViews
import Derived.JoinedTies
import Derived.KernelRfl
namespace Go.Proofs.Qxb6603950a
/- THE CELL 'sum', in the pinned program and in every row, IS THE sha256 OF THE DUMP (.gsa) THAT Qxb6603950aProg.lean LOADS. Nothing in Lean hashes anything: it is a label: what it is worth is what the hold of that sum in a sandbox is worth. -/
noncomputable def Try.pinned : Pinned := { name := "qxb6603950a", sum := "ca0a9fc6c023d54ea2484718b3c5d709594cd3615432bd86ed1a4b87ec2fda3e", checked := Try.checked }
namespace Rows
def none {H : Type} : Left H := { results := [], args := [] }

/-- 'zzlaws_internal_sip_b1.FnIndexOutsideQuotesMatchesModel': WHATEVER THE INPUT: true; the input reads as it did. -/
def fnIndexOutsideQuotesMatchesModelSpec : ChangeSpec := { name := "fnIndexOutsideQuotesMatchesModel", fn := fun _ => fun
  | [d1, d2] => { results := [.lit (.bool true)], args := [d1, d2] }
  | _ => none }
def fnIndexOutsideQuotesMatchesModelRow : OpenClaim := { program := "qxb6603950a", sum := "ca0a9fc6c023d54ea2484718b3c5d709594cd3615432bd86ed1a4b87ec2fda3e", func := "example.com/corecheck/corecheck/zzlaws_internal_sip_b1.FnIndexOutsideQuotesMatchesModel", spec := "fnIndexOutsideQuotesMatchesModel", apart := false }
def FnIndexOutsideQuotesMatchesModelSaid : Prop := fnIndexOutsideQuotesMatchesModelRow.holds Try.pinned (OpenSpec.ofChange fnIndexOutsideQuotesMatchesModelSpec)

/-- ITS FALSE NEIGHBOUR: 'it returns false'. Refute it at one input. -/
def fnIndexOutsideQuotesMatchesModelWrong : ChangeSpec := { name := "fnIndexOutsideQuotesMatchesModel", fn := fun _ => fun
  | [d1, d2] => { results := [.lit (.bool false)], args := [d1, d2] }
  | _ => none }
def FnIndexOutsideQuotesMatchesModelWrongFalsely : Prop := fnIndexOutsideQuotesMatchesModelRow.holds Try.pinned (OpenSpec.ofChange fnIndexOutsideQuotesMatchesModelWrong)

/-- 'zzlaws_internal_sip_b1.FnIndexOutsideQuotesSkipsQuotedText': WHATEVER THE INPUT: true; the input reads as it did. -/
def fnIndexOutsideQuotesSkipsQuotedTextSpec : ChangeSpec := { name := "fnIndexOutsideQuotesSkipsQuotedText", fn := fun _ => fun
  | [d1, d2, d3] => { results := [.lit (.bool true)], args := [d1, d2, d3] }
  | _ => none }
def fnIndexOutsideQuotesSkipsQuotedTextRow : OpenClaim := { program := "qxb6603950a", sum := "ca0a9fc6c023d54ea2484718b3c5d709594cd3615432bd86ed1a4b87ec2fda3e", func := "example.com/corecheck/corecheck/zzlaws_internal_sip_b1.FnIndexOutsideQuotesSkipsQuotedText", spec := "fnIndexOutsideQuotesSkipsQuotedText", apart := false }
def FnIndexOutsideQuotesSkipsQuotedTextSaid : Prop := fnIndexOutsideQuotesSkipsQuotedTextRow.holds Try.pinned (OpenSpec.ofChange fnIndexOutsideQuotesSkipsQuotedTextSpec)

/-- ITS FALSE NEIGHBOUR: 'it returns false'. Refute it at one input. -/
def fnIndexOutsideQuotesSkipsQuotedTextWrong : ChangeSpec := { name := "fnIndexOutsideQuotesSkipsQuotedText", fn := fun _ => fun
  | [d1, d2, d3] => { results := [.lit (.bool false)], args := [d1, d2, d3] }
  | _ => none }
def FnIndexOutsideQuotesSkipsQuotedTextWrongFalsely : Prop := fnIndexOutsideQuotesSkipsQuotedTextRow.holds Try.pinned (OpenSpec.ofChange fnIndexOutsideQuotesSkipsQuotedTextWrong)

/-- 'zzlaws_internal_sip_b1.FnIndexOutsideQuotesDecidedByPrefix': WHATEVER THE INPUT: true; the input reads as it did. -/
def fnIndexOutsideQuotesDecidedByPrefixSpec : ChangeSpec := { name := "fnIndexOutsideQuotesDecidedByPrefix", fn := fun _ => fun
  | [d1, d2, d3] => { results := [.lit (.bool true)], args := [d1, d2, d3] }
  | _ => none }
def fnIndexOutsideQuotesDecidedByPrefixRow : OpenClaim := { program := "qxb6603950a", sum := "ca0a9fc6c023d54ea2484718b3c5d709594cd3615432bd86ed1a4b87ec2fda3e", func := "example.com/corecheck/corecheck/zzlaws_internal_sip_b1.FnIndexOutsideQuotesDecidedByPrefix", spec := "fnIndexOutsideQuotesDecidedByPrefix", apart := false }
def FnIndexOutsideQuotesDecidedByPrefixSaid : Prop := fnIndexOutsideQuotesDecidedByPrefixRow.holds Try.pinned (OpenSpec.ofChange fnIndexOutsideQuotesDecidedByPrefixSpec)

/-- ITS FALSE NEIGHBOUR: 'it returns false'. Refute it at one input. -/
def fnIndexOutsideQuotesDecidedByPrefixWrong : ChangeSpec := { name := "fnIndexOutsideQuotesDecidedByPrefix", fn := fun _ => fun
  | [d1, d2, d3] => { results := [.lit (.bool false)], args := [d1, d2, d3] }
  | _ => none }
def FnIndexOutsideQuotesDecidedByPrefixWrongFalsely : Prop := fnIndexOutsideQuotesDecidedByPrefixRow.holds Try.pinned (OpenSpec.ofChange fnIndexOutsideQuotesDecidedByPrefixWrong)

/-- 'zzlaws_internal_sip_b1.FnIsTokenMatchesRFCComplement': WHATEVER THE INPUT: true; the input reads as it did. -/
def fnIsTokenMatchesRFCComplementSpec : ChangeSpec := { name := "fnIsTokenMatchesRFCComplement", fn := fun _ => fun
  | [d] => { results := [.lit (.bool true)], args := [d] }
  | _ => none }
def fnIsTokenMatchesRFCComplementRow : OpenClaim := { program := "qxb6603950a", sum := "ca0a9fc6c023d54ea2484718b3c5d709594cd3615432bd86ed1a4b87ec2fda3e", func := "example.com/corecheck/corecheck/zzlaws_internal_sip_b1.FnIsTokenMatchesRFCComplement", spec := "fnIsTokenMatchesRFCComplement", inPlace := ["internal/bytealg.IndexByteString"], apart := false }
def FnIsTokenMatchesRFCComplementSaid : Prop := fnIsTokenMatchesRFCComplementRow.holds Try.pinned (OpenSpec.ofChange fnIsTokenMatchesRFCComplementSpec)

/-- ITS FALSE NEIGHBOUR: 'it returns false'. Refute it at one input. -/
def fnIsTokenMatchesRFCComplementWrong : ChangeSpec := { name := "fnIsTokenMatchesRFCComplement", fn := fun _ => fun
  | [d] => { results := [.lit (.bool false)], args := [d] }
  | _ => none }
def FnIsTokenMatchesRFCComplementWrongFalsely : Prop := fnIsTokenMatchesRFCComplementRow.holds Try.pinned (OpenSpec.ofChange fnIsTokenMatchesRFCComplementWrong)

end Rows
end Go.Proofs.Qxb6603950a
