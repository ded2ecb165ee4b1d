/-
  No cell of these rows narrows 'for every input' (looked for: loops, veiled, ifaces, maps, wideKeys, modest, calm, conditions, laid).
  DERIVED. THE GIVEN ROWS OF THIS SEAT. 4 by the template 'for every input the law returns true; each argument reads behind the call as it read before'; 0 by the template 'total and deterministic' (their statements: Qxb6601098aTotals.lean).
  GIVEN WITH THE SEED: the statements are not yours to turn. If you find one false, say at which input.
  Laid BY PROGRAM, IN A SANDBOX (cutbox-rows.mjs): the forced cells as the released guide's own fill.sh prints them over the translation cb24c1826733cc1d… (all of the seat's roots in one cut). By AI agents, Wed Nov 11 2026. No macro, syntax, notation, axiom, sorry.
-/
import Derived.Test.Qxb6601098aChecked
import GoSem.Claim
import GoSem.ClaimJoined
import GoSem.ClaimMapViews
import Derived.JoinedTies
import Derived.KernelRfl
namespace Go.Proofs.Qxb6601098a
/- THE CELL 'sum', in the pinned program and in every row, IS THE sha256 OF THE DUMP (.gsa) THAT Qxb6601098aProg.lean LOADS. Nothing in Lean hashes anything: it is a label: what it is worth is what the hold of that sum in a sandbox is worth. -/
noncomputable def Try.pinned : Pinned := { name := "qxb6601098a", sum := "cb24c1826733cc1df8c71dde4343fd03eb124ac22acea34535b0c2a0b60d6cc1", checked := Try.checked }
namespace Rows
def none {H : Type} : Left H := { results := [], args := [] }

/-- 'zzlaws_internal_config_b1.FnEditsMatchesSuffixModel': WHATEVER THE INPUT: true; the input reads as it did. -/
def fnEditsMatchesSuffixModelSpec : ChangeSpec := { name := "fnEditsMatchesSuffixModel", fn := fun _ => fun
  | [d1, d2] => { results := [.lit (.bool true)], args := [d1, d2] }
  | _ => none }
def fnEditsMatchesSuffixModelRow : OpenClaim := { program := "qxb6601098a", sum := "cb24c1826733cc1df8c71dde4343fd03eb124ac22acea34535b0c2a0b60d6cc1", func := "example.com/emberpool/emberpool/zzlaws_internal_config_b1.FnEditsMatchesSuffixModel", spec := "fnEditsMatchesSuffixModel", apart := false }
def FnEditsMatchesSuffixModelSaid : Prop := fnEditsMatchesSuffixModelRow.holds Try.pinned (OpenSpec.ofChange fnEditsMatchesSuffixModelSpec)

/-- ITS FALSE NEIGHBOUR: 'it returns false'. Refute it at one input. -/
def fnEditsMatchesSuffixModelWrong : ChangeSpec := { name := "fnEditsMatchesSuffixModel", fn := fun _ => fun
  | [d1, d2] => { results := [.lit (.bool false)], args := [d1, d2] }
  | _ => none }
def FnEditsMatchesSuffixModelWrongFalsely : Prop := fnEditsMatchesSuffixModelRow.holds Try.pinned (OpenSpec.ofChange fnEditsMatchesSuffixModelWrong)

/-- 'zzlaws_internal_config_b1.FnEditsSymmetricAndBounded': WHATEVER THE INPUT: true; the input reads as it did. -/
def fnEditsSymmetricAndBoundedSpec : ChangeSpec := { name := "fnEditsSymmetricAndBounded", fn := fun _ => fun
  | [d1, d2] => { results := [.lit (.bool true)], args := [d1, d2] }
  | _ => none }
def fnEditsSymmetricAndBoundedRow : OpenClaim := { program := "qxb6601098a", sum := "cb24c1826733cc1df8c71dde4343fd03eb124ac22acea34535b0c2a0b60d6cc1", func := "example.com/emberpool/emberpool/zzlaws_internal_config_b1.FnEditsSymmetricAndBounded", spec := "fnEditsSymmetricAndBounded", apart := false }
def FnEditsSymmetricAndBoundedSaid : Prop := fnEditsSymmetricAndBoundedRow.holds Try.pinned (OpenSpec.ofChange fnEditsSymmetricAndBoundedSpec)

/-- ITS FALSE NEIGHBOUR: 'it returns false'. Refute it at one input. -/
def fnEditsSymmetricAndBoundedWrong : ChangeSpec := { name := "fnEditsSymmetricAndBounded", fn := fun _ => fun
  | [d1, d2] => { results := [.lit (.bool false)], args := [d1, d2] }
  | _ => none }
def FnEditsSymmetricAndBoundedWrongFalsely : Prop := fnEditsSymmetricAndBoundedRow.holds Try.pinned (OpenSpec.ofChange fnEditsSymmetricAndBoundedWrong)

/-- 'zzlaws_internal_config_b1.FnReferenceAtMatchesFirstBraceModel': WHATEVER THE INPUT: true; the input reads as it did. -/
def fnReferenceAtMatchesFirstBraceModelSpec : ChangeSpec := { name := "fnReferenceAtMatchesFirstBraceModel", fn := fun _ => fun
  | [d] => { results := [.lit (.bool true)], args := [d] }
  | _ => none }
def fnReferenceAtMatchesFirstBraceModelRow : OpenClaim := { program := "qxb6601098a", sum := "cb24c1826733cc1df8c71dde4343fd03eb124ac22acea34535b0c2a0b60d6cc1", func := "example.com/emberpool/emberpool/zzlaws_internal_config_b1.FnReferenceAtMatchesFirstBraceModel", spec := "fnReferenceAtMatchesFirstBraceModel", inPlace := ["internal/bytealg.IndexByteString"], apart := false }
def FnReferenceAtMatchesFirstBraceModelSaid : Prop := fnReferenceAtMatchesFirstBraceModelRow.holds Try.pinned (OpenSpec.ofChange fnReferenceAtMatchesFirstBraceModelSpec)

/-- ITS FALSE NEIGHBOUR: 'it returns false'. Refute it at one input. -/
def fnReferenceAtMatchesFirstBraceModelWrong : ChangeSpec := { name := "fnReferenceAtMatchesFirstBraceModel", fn := fun _ => fun
  | [d] => { results := [.lit (.bool false)], args := [d] }
  | _ => none }
def FnReferenceAtMatchesFirstBraceModelWrongFalsely : Prop := fnReferenceAtMatchesFirstBraceModelRow.holds Try.pinned (OpenSpec.ofChange fnReferenceAtMatchesFirstBraceModelWrong)

/-- 'zzlaws_internal_config_b1.FnReferenceAtReadsWhatWasWritten': WHATEVER THE INPUT: true; the input reads as it did. -/
def fnReferenceAtReadsWhatWasWrittenSpec : ChangeSpec := { name := "fnReferenceAtReadsWhatWasWritten", fn := fun _ => fun
  | [d1, d2, d3, d4] => { results := [.lit (.bool true)], args := [d1, d2, d3, d4] }
  | _ => none }
def fnReferenceAtReadsWhatWasWrittenRow : OpenClaim := { program := "qxb6601098a", sum := "cb24c1826733cc1df8c71dde4343fd03eb124ac22acea34535b0c2a0b60d6cc1", func := "example.com/emberpool/emberpool/zzlaws_internal_config_b1.FnReferenceAtReadsWhatWasWritten", spec := "fnReferenceAtReadsWhatWasWritten", inPlace := ["internal/bytealg.IndexByteString"], apart := false }
def FnReferenceAtReadsWhatWasWrittenSaid : Prop := fnReferenceAtReadsWhatWasWrittenRow.holds Try.pinned (OpenSpec.ofChange fnReferenceAtReadsWhatWasWrittenSpec)

/-- ITS FALSE NEIGHBOUR: 'it returns false'. Refute it at one input. -/
def fnReferenceAtReadsWhatWasWrittenWrong : ChangeSpec := { name := "fnReferenceAtReadsWhatWasWritten", fn := fun _ => fun
  | [d1, d2, d3, d4] => { results := [.lit (.bool false)], args := [d1, d2, d3, d4] }
  | _ => none }
def FnReferenceAtReadsWhatWasWrittenWrongFalsely : Prop := fnReferenceAtReadsWhatWasWrittenRow.holds Try.pinned (OpenSpec.ofChange fnReferenceAtReadsWhatWasWrittenWrong)

end Rows
end Go.Proofs.Qxb6601098a
