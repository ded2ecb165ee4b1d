/-
  No cell of these rows narrows 'for every input' (looked for: loops, veiled, ifaces, maps, wideKeys, modest, calm, conditions, laid).
  DERIVED. THE GIVEN ROWS OF THIS SEAT. 5 by the template 'for every input the law returns true; each argument reads behind the call as it read before'; 0 by the template 'total and deterministic' (their statements: Qxb6601579aTotals.lean).
  GIVEN WITH THE SEED: the statements are not yours to turn. If you find one false, say at which input.
  Laid BY PROGRAM, IN A SANDBOX (cutbox-rows.mjs): the forced cells as the released guide's own fill.sh prints them over the translation edb32ecafc815c12… (all of the seat's roots in one cut). By AI agents, Wed Nov 11 2026. No macro, syntax, notation, axiom, sorry.
-/
import Derived.Test.Qxb6601579aChecked
import GoSem.Claim
import GoSem.ClaimJoined
import GoSem.ClaimMapViews
import Derived.JoinedTies
import Derived.KernelRfl
namespace Go.Proofs.Qxb6601579a
/- THE CELL 'sum', in the pinned program and in every row, IS THE sha256 OF THE DUMP (.gsa) THAT Qxb6601579aProg.lean LOADS. Nothing in Lean hashes anything: it is a label: what it is worth is what the hold of that sum in a sandbox is worth. -/
noncomputable def Try.pinned : Pinned := { name := "qxb6601579a", sum := "edb32ecafc815c1244aea0238fa7b5d57642bb6ef2e6f33f4ab4756c1a818c0d", checked := Try.checked }
namespace Rows
def none {H : Type} : Left H := { results := [], args := [] }

/-- 'zzlaws_root_b1.FnNamesOneWayWithinAccount': WHATEVER THE INPUT: true; the input reads as it did. -/
def fnNamesOneWayWithinAccountSpec : ChangeSpec := { name := "fnNamesOneWayWithinAccount", fn := fun _ => fun
  | [d1, d2] => { results := [.lit (.bool true)], args := [d1, d2] }
  | _ => none }
def fnNamesOneWayWithinAccountRow : OpenClaim := { program := "qxb6601579a", sum := "edb32ecafc815c1244aea0238fa7b5d57642bb6ef2e6f33f4ab4756c1a818c0d", func := "example.com/access-policy-evaluator/access-policy-evaluator/zzlaws_root_b1.FnNamesOneWayWithinAccount", spec := "fnNamesOneWayWithinAccount", apart := false }
def FnNamesOneWayWithinAccountSaid : Prop := fnNamesOneWayWithinAccountRow.holds Try.pinned (OpenSpec.ofChange fnNamesOneWayWithinAccountSpec)

/-- ITS FALSE NEIGHBOUR: 'it returns false'. Refute it at one input. -/
def fnNamesOneWayWithinAccountWrong : ChangeSpec := { name := "fnNamesOneWayWithinAccount", fn := fun _ => fun
  | [d1, d2] => { results := [.lit (.bool false)], args := [d1, d2] }
  | _ => none }
def FnNamesOneWayWithinAccountWrongFalsely : Prop := fnNamesOneWayWithinAccountRow.holds Try.pinned (OpenSpec.ofChange fnNamesOneWayWithinAccountWrong)

/-- 'zzlaws_root_b1.FnNamesBarePartitionAsCallers': WHATEVER THE INPUT: true; the input reads as it did. -/
def fnNamesBarePartitionAsCallersSpec : ChangeSpec := { name := "fnNamesBarePartitionAsCallers", fn := fun _ => fun
  | [d1, d2] => { results := [.lit (.bool true)], args := [d1, d2] }
  | _ => none }
def fnNamesBarePartitionAsCallersRow : OpenClaim := { program := "qxb6601579a", sum := "edb32ecafc815c1244aea0238fa7b5d57642bb6ef2e6f33f4ab4756c1a818c0d", func := "example.com/access-policy-evaluator/access-policy-evaluator/zzlaws_root_b1.FnNamesBarePartitionAsCallers", spec := "fnNamesBarePartitionAsCallers", apart := false }
def FnNamesBarePartitionAsCallersSaid : Prop := fnNamesBarePartitionAsCallersRow.holds Try.pinned (OpenSpec.ofChange fnNamesBarePartitionAsCallersSpec)

/-- ITS FALSE NEIGHBOUR: 'it returns false'. Refute it at one input. -/
def fnNamesBarePartitionAsCallersWrong : ChangeSpec := { name := "fnNamesBarePartitionAsCallers", fn := fun _ => fun
  | [d1, d2] => { results := [.lit (.bool false)], args := [d1, d2] }
  | _ => none }
def FnNamesBarePartitionAsCallersWrongFalsely : Prop := fnNamesBarePartitionAsCallersRow.holds Try.pinned (OpenSpec.ofChange fnNamesBarePartitionAsCallersWrong)

/-- 'zzlaws_root_b1.FnMatchMatchesModel': WHATEVER THE INPUT: true; the input reads as it did. -/
def fnMatchMatchesModelSpec : ChangeSpec := { name := "fnMatchMatchesModel", fn := fun _ => fun
  | [d1, d2, d3] => { results := [.lit (.bool true)], args := [d1, d2, d3] }
  | _ => none }
def fnMatchMatchesModelRow : OpenClaim := { program := "qxb6601579a", sum := "edb32ecafc815c1244aea0238fa7b5d57642bb6ef2e6f33f4ab4756c1a818c0d", func := "example.com/access-policy-evaluator/access-policy-evaluator/zzlaws_root_b1.FnMatchMatchesModel", spec := "fnMatchMatchesModel", apart := false }
def FnMatchMatchesModelSaid : Prop := fnMatchMatchesModelRow.holds Try.pinned (OpenSpec.ofChange fnMatchMatchesModelSpec)

/-- ITS FALSE NEIGHBOUR: 'it returns false'. Refute it at one input. -/
def fnMatchMatchesModelWrong : ChangeSpec := { name := "fnMatchMatchesModel", fn := fun _ => fun
  | [d1, d2, d3] => { results := [.lit (.bool false)], args := [d1, d2, d3] }
  | _ => none }
def FnMatchMatchesModelWrongFalsely : Prop := fnMatchMatchesModelRow.holds Try.pinned (OpenSpec.ofChange fnMatchMatchesModelWrong)

/-- 'zzlaws_root_b1.FnMatchMonotoneInValues': WHATEVER THE INPUT: true; the input reads as it did. -/
def fnMatchMonotoneInValuesSpec : ChangeSpec := { name := "fnMatchMonotoneInValues", fn := fun _ => fun
  | [d1, d2, d3, d4] => { results := [.lit (.bool true)], args := [d1, d2, d3, d4] }
  | _ => none }
def fnMatchMonotoneInValuesRow : OpenClaim := { program := "qxb6601579a", sum := "edb32ecafc815c1244aea0238fa7b5d57642bb6ef2e6f33f4ab4756c1a818c0d", func := "example.com/access-policy-evaluator/access-policy-evaluator/zzlaws_root_b1.FnMatchMonotoneInValues", spec := "fnMatchMonotoneInValues", apart := false }
def FnMatchMonotoneInValuesSaid : Prop := fnMatchMonotoneInValuesRow.holds Try.pinned (OpenSpec.ofChange fnMatchMonotoneInValuesSpec)

/-- ITS FALSE NEIGHBOUR: 'it returns false'. Refute it at one input. -/
def fnMatchMonotoneInValuesWrong : ChangeSpec := { name := "fnMatchMonotoneInValues", fn := fun _ => fun
  | [d1, d2, d3, d4] => { results := [.lit (.bool false)], args := [d1, d2, d3, d4] }
  | _ => none }
def FnMatchMonotoneInValuesWrongFalsely : Prop := fnMatchMonotoneInValuesRow.holds Try.pinned (OpenSpec.ofChange fnMatchMonotoneInValuesWrong)

/-- 'zzlaws_root_b1.FnMatchOrderFree': WHATEVER THE INPUT: true; the input reads as it did. -/
def fnMatchOrderFreeSpec : ChangeSpec := { name := "fnMatchOrderFree", fn := fun _ => fun
  | [d1, d2, d3] => { results := [.lit (.bool true)], args := [d1, d2, d3] }
  | _ => none }
def fnMatchOrderFreeRow : OpenClaim := { program := "qxb6601579a", sum := "edb32ecafc815c1244aea0238fa7b5d57642bb6ef2e6f33f4ab4756c1a818c0d", func := "example.com/access-policy-evaluator/access-policy-evaluator/zzlaws_root_b1.FnMatchOrderFree", spec := "fnMatchOrderFree", apart := false }
def FnMatchOrderFreeSaid : Prop := fnMatchOrderFreeRow.holds Try.pinned (OpenSpec.ofChange fnMatchOrderFreeSpec)

/-- ITS FALSE NEIGHBOUR: 'it returns false'. Refute it at one input. -/
def fnMatchOrderFreeWrong : ChangeSpec := { name := "fnMatchOrderFree", fn := fun _ => fun
  | [d1, d2, d3] => { results := [.lit (.bool false)], args := [d1, d2, d3] }
  | _ => none }
def FnMatchOrderFreeWrongFalsely : Prop := fnMatchOrderFreeRow.holds Try.pinned (OpenSpec.ofChange fnMatchOrderFreeWrong)

end Rows
end Go.Proofs.Qxb6601579a
