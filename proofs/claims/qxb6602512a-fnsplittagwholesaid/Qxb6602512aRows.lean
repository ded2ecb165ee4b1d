/-
  No cell of these rows narrows 'for every input' (looked for: loops, veiled, ifaces, maps, wideKeys, modest, calm, conditions, laid).
  DERIVED. THE GIVEN ROWS OF THIS SEAT. 3 by the template 'for every input the law returns true; each argument reads behind the call as it read before'; 0 by the template 'total and deterministic' (their statements: Qxb6602512aTotals.lean).
  GIVEN WITH THE SEED: the statements are not yours to turn. If you find one false, say at which input.
  Laid BY PROGRAM, IN A SANDBOX (cutbox-rows.mjs): the forced cells as the released guide's own fill.sh prints them over the translation 27ad3ffc98b21c04… (all of the seat's roots in one cut). By AI agents, Wed Nov 11 2026. No macro, syntax, notation, axiom, sorry.
-/
import Derived.Test.Qxb6602512aChecked
import GoSem.Claim
import GoSem.ClaimJoined
import GoSem.ClaimMapViews
import Derived.JoinedTies
import Derived.KernelRfl
namespace Go.Proofs.Qxb6602512a
/- THE CELL 'sum', in the pinned program and in every row, IS THE sha256 OF THE DUMP (.gsa) THAT Qxb6602512aProg.lean LOADS. Nothing in Lean hashes anything: it is a label: what it is worth is what the hold of that sum in a sandbox is worth. -/
noncomputable def Try.pinned : Pinned := { name := "qxb6602512a", sum := "27ad3ffc98b21c040bb65f30c363f9ecfce6a80a193dc0ca17b488c27707d181", checked := Try.checked }
namespace Rows
def none {H : Type} : Left H := { results := [], args := [] }

/-- 'zzlaws_pkg_emit_b1.FnSplitTagWhole': WHATEVER THE INPUT: true; the input reads as it did. -/
def fnSplitTagWholeSpec : ChangeSpec := { name := "fnSplitTagWhole", fn := fun _ => fun
  | [d] => { results := [.lit (.bool true)], args := [d] }
  | _ => none }
def fnSplitTagWholeRow : OpenClaim := { program := "qxb6602512a", sum := "27ad3ffc98b21c040bb65f30c363f9ecfce6a80a193dc0ca17b488c27707d181", func := "example.com/accrete/accrete/zzlaws_pkg_emit_b1.FnSplitTagWhole", spec := "fnSplitTagWhole", apart := false }
def FnSplitTagWholeSaid : Prop := fnSplitTagWholeRow.holds Try.pinned (OpenSpec.ofChange fnSplitTagWholeSpec)

/-- ITS FALSE NEIGHBOUR: 'it returns false'. Refute it at one input. -/
def fnSplitTagWholeWrong : ChangeSpec := { name := "fnSplitTagWhole", fn := fun _ => fun
  | [d] => { results := [.lit (.bool false)], args := [d] }
  | _ => none }
def FnSplitTagWholeWrongFalsely : Prop := fnSplitTagWholeRow.holds Try.pinned (OpenSpec.ofChange fnSplitTagWholeWrong)

/-- 'zzlaws_pkg_emit_b1.FnSplitTagReSplitsItsShortForm': WHATEVER THE INPUT: true; the input reads as it did. -/
def fnSplitTagReSplitsItsShortFormSpec : ChangeSpec := { name := "fnSplitTagReSplitsItsShortForm", fn := fun _ => fun
  | [d] => { results := [.lit (.bool true)], args := [d] }
  | _ => none }
def fnSplitTagReSplitsItsShortFormRow : OpenClaim := { program := "qxb6602512a", sum := "27ad3ffc98b21c040bb65f30c363f9ecfce6a80a193dc0ca17b488c27707d181", func := "example.com/accrete/accrete/zzlaws_pkg_emit_b1.FnSplitTagReSplitsItsShortForm", spec := "fnSplitTagReSplitsItsShortForm", apart := false }
def FnSplitTagReSplitsItsShortFormSaid : Prop := fnSplitTagReSplitsItsShortFormRow.holds Try.pinned (OpenSpec.ofChange fnSplitTagReSplitsItsShortFormSpec)

/-- ITS FALSE NEIGHBOUR: 'it returns false'. Refute it at one input. -/
def fnSplitTagReSplitsItsShortFormWrong : ChangeSpec := { name := "fnSplitTagReSplitsItsShortForm", fn := fun _ => fun
  | [d] => { results := [.lit (.bool false)], args := [d] }
  | _ => none }
def FnSplitTagReSplitsItsShortFormWrongFalsely : Prop := fnSplitTagReSplitsItsShortFormRow.holds Try.pinned (OpenSpec.ofChange fnSplitTagReSplitsItsShortFormWrong)

/-- 'zzlaws_pkg_emit_b1.FnSplitTagCoreShortAndLongAgree': WHATEVER THE INPUT: true; the input reads as it did. -/
def fnSplitTagCoreShortAndLongAgreeSpec : ChangeSpec := { name := "fnSplitTagCoreShortAndLongAgree", fn := fun _ => fun
  | [d] => { results := [.lit (.bool true)], args := [d] }
  | _ => none }
def fnSplitTagCoreShortAndLongAgreeRow : OpenClaim := { program := "qxb6602512a", sum := "27ad3ffc98b21c040bb65f30c363f9ecfce6a80a193dc0ca17b488c27707d181", func := "example.com/accrete/accrete/zzlaws_pkg_emit_b1.FnSplitTagCoreShortAndLongAgree", spec := "fnSplitTagCoreShortAndLongAgree", apart := false }
def FnSplitTagCoreShortAndLongAgreeSaid : Prop := fnSplitTagCoreShortAndLongAgreeRow.holds Try.pinned (OpenSpec.ofChange fnSplitTagCoreShortAndLongAgreeSpec)

/-- ITS FALSE NEIGHBOUR: 'it returns false'. Refute it at one input. -/
def fnSplitTagCoreShortAndLongAgreeWrong : ChangeSpec := { name := "fnSplitTagCoreShortAndLongAgree", fn := fun _ => fun
  | [d] => { results := [.lit (.bool false)], args := [d] }
  | _ => none }
def FnSplitTagCoreShortAndLongAgreeWrongFalsely : Prop := fnSplitTagCoreShortAndLongAgreeRow.holds Try.pinned (OpenSpec.ofChange fnSplitTagCoreShortAndLongAgreeWrong)

end Rows
end Go.Proofs.Qxb6602512a
